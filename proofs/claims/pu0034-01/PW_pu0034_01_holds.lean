import PyProof.Rows.All
import Wide.All
import OpenK.AllK
import Wide.FinOn
import Flt.RightMore
import Flt.Calls
import Lean
import PySem.Challenge.RW_pu0034_01
set_option Elab.async false
set_option compiler.extract_closed false

section
open PySem PySem.W PyProof.Rows PySem.Calls PySem.Spec
set_option Elab.async false
set_option linter.unusedVariables false
namespace Mine

/-- pure data -/
inductive D where
  | none
  | bool (b : Bool)
  | int (i : Int)
  | flt (x : UInt64)
  | str (x : Str)
  | tup (xs : List D)
  | lst (xs : List D)

abbrev tupO (vs : List Value) (n : Nat) : Obj := { cls := .type "tuple", data := .seq vs.toArray n }
abbrev lstO (vs : List Value) (n : Nat) : Obj := { cls := .type "list", data := .seq vs.toArray n }

mutual
/-- the value v stands for the datum in the heap h; none of its objects is one of av -/
def Rep (h : Heap) (av : Addr → Prop) : D → Value → Prop
  | .none, v => v = .none
  | .bool b, v => v = .bool b
  | .int i, v => ∃ t, v = .int i t
  | .flt x, v => ∃ t, v = .float x t
  | .str x, v => ∃ t, v = .str x t
  | .tup xs, v => ∃ a vs n, v = .ref a ∧ ¬ av a ∧ h.get? a = some (tupO vs n) ∧ RepL h av xs vs
  | .lst xs, v => ∃ a vs n, v = .ref a ∧ ¬ av a ∧ h.get? a = some (lstO vs n) ∧ RepL h av xs vs
def RepL (h : Heap) (av : Addr → Prop) : List D → List Value → Prop
  | [], vs => vs = []
  | x :: xs, vs => ∃ v r, vs = v :: r ∧ Rep h av x v ∧ RepL h av xs r
end

/-- every object that is no dict and no cell and not in M is kept -/
def isSeq (o : Obj) : Prop := ∃ xs n, o.data = .seq xs n
def KeepsSeq (av av' : Addr → Prop) (h h' : Heap) : Prop := ∀ a o, ¬ av a → isSeq o → h.get? a = some o → h'.get? a = some o ∧ ¬ av' a

mutual
theorem Rep.mono {h h' : Heap} {av av' : Addr → Prop} (k : KeepsSeq av av' h h') : ∀ {d : D} {v : Value}, Rep h av d v → Rep h' av' d v
  | .none, _, r => r
  | .bool _, _, r => r
  | .int _, _, r => r
  | .flt _, _, r => r
  | .str _, _, r => r
  | .tup xs, _, r => by
    obtain ⟨a, vs, n, rfl, ha, e, rl⟩ := r
    exact ⟨a, vs, n, rfl, (k a _ ha ⟨_, _, rfl⟩ e).2, (k a _ ha ⟨_, _, rfl⟩ e).1, RepL.mono k rl⟩
  | .lst xs, _, r => by
    obtain ⟨a, vs, n, rfl, ha, e, rl⟩ := r
    exact ⟨a, vs, n, rfl, (k a _ ha ⟨_, _, rfl⟩ e).2, (k a _ ha ⟨_, _, rfl⟩ e).1, RepL.mono k rl⟩
theorem RepL.mono {h h' : Heap} {av av' : Addr → Prop} (k : KeepsSeq av av' h h') : ∀ {ds : List D} {vs : List Value}, RepL h av ds vs → RepL h' av' ds vs
  | [], _, r => r
  | _ :: _, _, r => by
    obtain ⟨v, q, rfl, r1, r2⟩ := r
    exact ⟨v, q, rfl, Rep.mono k r1, RepL.mono k r2⟩
end

theorem RepL.length {h : Heap} {av : Addr → Prop} : ∀ {ds : List D} {vs : List Value}, RepL h av ds vs → vs.length = ds.length
  | [], _, r => by rw [show _ = [] from r]; rfl
  | _ :: _, _, r => by
    obtain ⟨v, q, rfl, _, r2⟩ := r
    rw [List.length_cons, List.length_cons, RepL.length r2]
theorem RepL.get {h : Heap} {av : Addr → Prop} : ∀ {ds : List D} {vs : List Value} {i : Nat} {d : D}, RepL h av ds vs → ds[i]? = some d → ∃ v, vs[i]? = some v ∧ Rep h av d v
  | [], _, _, _, _, e => by simp at e
  | _ :: _, _, 0, _, r, e => by
    obtain ⟨v, q, rfl, r1, _⟩ := r
    simp at e; subst e
    exact ⟨v, by simp, r1⟩
  | _ :: _, _, i + 1, _, r, e => by
    obtain ⟨v, q, rfl, _, r2⟩ := r
    simp at e
    obtain ⟨v', e', r'⟩ := RepL.get r2 e
    exact ⟨v', by simpa using e', r'⟩
theorem RepL.get' {h : Heap} {av : Addr → Prop} {ds : List D} {vs : List Value} {i : Nat} {v : Value} (r : RepL h av ds vs) (e : vs[i]? = some v) : ∃ d, ds[i]? = some d ∧ Rep h av d v := by
  have hl := r.length
  have hi : i < vs.length := by
    rcases Nat.lt_or_ge i vs.length with h | h
    · exact h
    · rw [List.getElem?_eq_none h] at e; cases e
  have : ds[i]? = some (ds[i]'(hl ▸ hi)) := List.getElem?_eq_getElem _
  obtain ⟨v', e', r'⟩ := r.get this
  rw [e] at e'; cases e'
  exact ⟨_, this, r'⟩
theorem RepL.append {h : Heap} {av : Addr → Prop} : ∀ {ds es : List D} {vs ws : List Value}, RepL h av ds vs → RepL h av es ws → RepL h av (ds ++ es) (vs ++ ws)
  | [], _, _, _, r, q => by rw [show _ = [] from r]; exact q
  | _ :: _, _, _, _, r, q => by
    obtain ⟨v, u, rfl, r1, r2⟩ := r
    exact ⟨v, _, rfl, r1, RepL.append r2 q⟩
theorem RepL.one {h : Heap} {av : Addr → Prop} {d : D} {v : Value} (r : Rep h av d v) : RepL h av [d] [v] := ⟨v, [], rfl, r, rfl⟩
theorem RepL.take {h : Heap} {av : Addr → Prop} : ∀ {ds : List D} {vs : List Value} (k : Nat), RepL h av ds vs → RepL h av (ds.take k) (vs.take k)
  | [], _, k, r => by rw [show _ = [] from r]; simp [RepL]
  | _ :: _, _, 0, _ => by simp [RepL]
  | _ :: _, _, k + 1, r => by
    obtain ⟨v, q, rfl, r1, r2⟩ := r
    exact ⟨v, q.take k, by simp, r1, RepL.take k r2⟩
theorem RepL.drop {h : Heap} {av : Addr → Prop} : ∀ {ds : List D} {vs : List Value} (k : Nat), RepL h av ds vs → RepL h av (ds.drop k) (vs.drop k)
  | [], _, k, r => by rw [show _ = [] from r]; simp [RepL]
  | _ :: _, _, 0, r => r
  | _ :: _, _, k + 1, r => by
    obtain ⟨v, q, rfl, _, r2⟩ := r
    exact RepL.drop k r2

/-- what stands fast: the text's own objects, no limit set, the built-in names -/
structure Cx (K : Frag) (h₀ : Heap) : Prop where
  k : K.In h₀
  nolimit : h₀.NoLimit
  bns : ∃ mb, h₀.Ns builtinsNs mb ∧ ∀ x : Str, x ≠ "__name__" → mb x = bootBuiltins x

def Kp (h h' : Heap) : Prop := ∀ b o, h.get? b = some o → h'.get? b = some o
theorem Kp.refl (h : Heap) : Kp h h := fun _ _ e => e
theorem Kp.trans {a b c : Heap} (x : Kp a b) (y : Kp b c) : Kp a c := fun q o e => y q o (x q o e)
theorem Kp.push (h : Heap) (o : Obj) : Kp h (h.push o) := fun _ _ e => Heap.get?_push_of_some _ e
theorem Kp.seq {h h' : Heap} (k : Kp h h') (av : Addr → Prop) : KeepsSeq av av h h' := fun a o na _ e => ⟨k a o e, na⟩
theorem Kp.size {h h' : Heap} {a : Addr} (k : Kp h h') (x : ∃ o, h.get? a = some o) : a < h'.objs.size := let ⟨_, e⟩ := x; Heap.lt_size (k _ _ e)

def Room (n : Nat) (A : Around) : Prop := A.handled = none ∧ A.depth + n < recursionLimit ∧ A.units + 20 * n + 100 < cLine
theorem Room.mono {n k : Nat} {A : Around} (r : Room n A) (h : k ≤ n) : Room k A := ⟨r.1, by have := r.2.1; omega, by have := r.2.2; omega⟩

structure EnvFor (sc : Scope) (env : Env) : Prop where
  scope : env.scope = sc
  globals : env.globals = mainGlobals
  builtins : env.builtins = builtinsNs

theorem EnvFor.kind {sc : Scope} {env : Env} (x : EnvFor sc env) (n : Str) : env.kindOf n = sc.names.lookup n := by unfold Env.kindOf; rw [x.scope]

/-- the name x holds the datum d -/
def NameIs (h : Heap) (av : Addr → Prop) (env : Env) (x : Str) (d : D) : Prop :=
  ∃ v, Rep h av d v ∧ ((env.kindOf x = some .local ∧ ∃ m, h.Ns env.locals m ∧ m x = some v) ∨
    ((env.kindOf x = some .cell ∨ env.kindOf x = some .free) ∧ ∃ c, env.cells.lookup x = some c ∧ h.IsCell c (some v)))

abbrev Sto := List (Str × D)
def Sees (h : Heap) (av : Addr → Prop) (env : Env) (σ : Sto) : Prop := ∀ x d, σ.lookup x = some d → NameIs h av env x d

theorem NameIs.keeps {h h' : Heap} {av : Addr → Prop} {env : Env} {x : Str} {d : D} (r : NameIs h av env x d) (k : Kp h h') : NameIs h' av env x d := by
  obtain ⟨v, r, ⟨a, m, b, c⟩ | ⟨a, c, b, e⟩⟩ := r
  · exact ⟨v, r.mono (k.seq av), .inl ⟨a, m, b.keeps k, c⟩⟩
  · exact ⟨v, r.mono (k.seq av), .inr ⟨a, c, b, e.keeps k⟩⟩
theorem Sees.keeps {h h' : Heap} {av : Addr → Prop} {env : Env} {σ : Sto} (r : Sees h av env σ) (k : Kp h h') : Sees h' av env σ := fun x d e => (r x d e).keeps k

def AvIn (av : Addr → Prop) (h : Heap) : Prop := ∀ a, av a → ∃ o, h.get? a = some o ∧ isSeq o
theorem AvIn.keeps {av : Addr → Prop} {h h' : Heap} (x : AvIn av h) (k : Kp h h') : AvIn av h' := fun a ha => let ⟨o, e, q⟩ := x a ha; ⟨o, k _ _ e, q⟩
theorem AvIn.new {av : Addr → Prop} {h : Heap} (x : AvIn av h) : ¬ av h.objs.size := fun ha => let ⟨_, e, _⟩ := x _ ha; Nat.lt_irrefl _ (Heap.lt_size e)

section
variable (prog : Program) (w : World) (K : Frag) (h₀ : Heap)

/-- the expression e gives d -/
def Ev (n : Nat) (sc : Scope) (σ : Sto) (e : Expr) (d : D) : Prop :=
  ∀ (env : Env), EnvFor sc env → ∀ (A : Around) (s : Shared) (av : Addr → Prop) (Q : Value → Shared → Prop) (E : Value → Shared → Prop),
    Room n A → Kp h₀ s.heap → AvIn av s.heap → Sees s.heap av env σ →
    (∀ v h' tk, Kp s.heap h' → Rep h' av d v → Q v { s with heap := h', toks := tk }) →
    wpAny (model prog w) A (eval e env) Q E s

/-- the test e comes out b -/
def Tr (n : Nat) (sc : Scope) (σ : Sto) (e : Expr) (b : Bool) : Prop :=
  ∀ (env : Env), EnvFor sc env → ∀ (A : Around) (s : Shared) (av : Addr → Prop) (Q : Bool → Shared → Prop) (E : Value → Shared → Prop),
    Room n A → Kp h₀ s.heap → AvIn av s.heap → Sees s.heap av env σ →
    (∀ h' tk, Kp s.heap h' → Q b { s with heap := h', toks := tk }) →
    wpAny (model prog w) A (isTrue e env (eval e env)) Q E s

/-- the call of f on args gives d -/
def Fn (n : Nat) (f : Value) (args : List D) (d : D) : Prop :=
  ∀ (A : Around) (s : Shared) (av : Addr → Prop) (vs : List Value) (Q : Value → Shared → Prop) (E : Value → Shared → Prop),
    Room n A → Kp h₀ s.heap → AvIn av s.heap → RepL s.heap av args vs →
    (∀ v h' tk, Kp s.heap h' → Rep h' av d v → Q v { s with heap := h', toks := tk }) →
    wpAny (model prog w) A (call f vs) Q E s

/-- the operator of two data gives d -/
def Bi (op : Operator) (a b d : D) : Prop :=
  ∀ (A : Around) (s : Shared) (av : Addr → Prop) (x y : Value) (Q : Value → Shared → Prop) (E : Value → Shared → Prop),
    Room 0 A → AvIn av s.heap → Rep s.heap av a x → Rep s.heap av b y →
    (∀ v h' tk, Kp s.heap h' → Rep h' av d v → Q v { s with heap := h', toks := tk }) →
    wpAny (model prog w) A (binaryOp op x y) Q E s

def Cm (op : CmpOp) (a b : D) (c : Bool) : Prop :=
  ∀ (A : Around) (s : Shared) (av : Addr → Prop) (x y : Value) (Q : Value → Shared → Prop) (E : Value → Shared → Prop),
    Room 0 A → AvIn av s.heap → Rep s.heap av a x → Rep s.heap av b y →
    (∀ h' tk, Kp s.heap h' → Q (.bool c) { s with heap := h', toks := tk }) →
    wpAny (model prog w) A (compareOp op x y) Q E s
end

section
variable {prog : Program} {w : World} {K : Frag} {h₀ : Heap} {n : Nat} {sc : Scope} {σ : Sto}

theorem Ev.mono {k : Nat} {e : Expr} {d : D} (h : Ev prog w h₀ k sc σ e d) (hk : k ≤ n) : Ev prog w h₀ n sc σ e d :=
  fun env he A s av Q E r => h env he A s av Q E (r.mono hk)
theorem Fn.mono {k : Nat} {f : Value} {as : List D} {d : D} (h : Fn prog w h₀ k f as d) (hk : k ≤ n) : Fn prog w h₀ n f as d :=
  fun A s av vs Q E r => h A s av vs Q E (r.mono hk)
theorem Ev.cast {e : Expr} {d d' : D} (h : Ev prog w h₀ n sc σ e d) (e' : d = d') : Ev prog w h₀ n sc σ e d' := e' ▸ h

theorem ev_int {i : Int} {k : Nat} {pos : Pos} : Ev prog w h₀ n sc σ (.Constant (.int i) k pos) (.int i) :=
  fun _ _ _ _ _ _ _ _ _ _ _ q => wpAny_Constant_int (q _ _ _ (Kp.refl _) ⟨_, rfl⟩)
theorem ev_float {x : UInt64} {k : Nat} {pos : Pos} : Ev prog w h₀ n sc σ (.Constant (.float x) k pos) (.flt x) :=
  fun _ _ _ _ _ _ _ _ _ _ _ q => PySem.wpAny_Constant_float (q _ _ _ (Kp.refl _) ⟨_, rfl⟩)
theorem ev_str {x : Str} {k : Nat} {pos : Pos} : Ev prog w h₀ n sc σ (.Constant (.str x) k pos) (.str x) :=
  fun _ _ _ _ _ _ _ _ _ _ _ q => wpAny_Constant_str (q _ _ _ (Kp.refl _) ⟨_, rfl⟩)
theorem ev_bool {b : Bool} {k : Nat} {pos : Pos} : Ev prog w h₀ n sc σ (.Constant (.bool b) k pos) (.bool b) :=
  fun _ _ _ s _ _ _ _ _ _ _ q => wpAny_Constant_bool (q (.bool b) s.heap s.toks (Kp.refl _) rfl)

theorem ev_name {x : Str} {pos : Pos} {d : D} (hx : σ.lookup x = some d) (hk : sc.kind = .function := by rfl)
    (hd : (x == ("__debug__" : Str)) = false := by decide +kernel) (hc : (x == ("__classdict__" : Str)) = false := by decide +kernel) : Ev prog w h₀ n sc σ (.Name x pos) d :=
  fun env he A s av Q E _ _ _ sees q => by
    obtain ⟨v, r, h⟩ := sees x d hx
    have hk' : env.scope.kind = .function := by rw [he.scope]; exact hk
    refine wpAny_Name ?_ hd
    rcases h with ⟨a, m, b, c⟩ | ⟨a | a, c, b, e⟩
    · exact wpAny_loadName_local hk' a b c (q v s.heap s.toks (Kp.refl _) r)
    · exact wpAny_loadName_cell hk' a b e (q v s.heap s.toks (Kp.refl _) r)
    · exact wpAny_loadName_free hk' a b e (q v s.heap s.toks (Kp.refl _) r) hc

theorem ev_bin {l r : Expr} {op : Operator} {pos : Pos} {a b d : D} (hl : Ev prog w h₀ n sc σ l a) (hr : Ev prog w h₀ n sc σ r b) (ho : Bi prog w op a b d) :
    Ev prog w h₀ n sc σ (.BinOp l op r pos) d :=
  fun env he A s av Q E rm k0 ha sees q => wpAny_BinOp (hl env he A s av _ _ rm k0 ha sees fun x h1 t1 k1 r1 =>
    hr env he A _ av _ _ rm (k0.trans k1) (ha.keeps k1) (sees.keeps k1) fun y h2 t2 k2 r2 =>
      ho A _ av x y _ _ (rm.mono (Nat.zero_le _)) ((ha.keeps k1).keeps k2) (r1.mono (k2.seq av)) r2 fun v h3 t3 k3 r3 => q v h3 t3 ((k1.trans k2).trans k3) r3)

theorem ev_cmp {l r : Expr} {op : CmpOp} {pos : Pos} {a b : D} {c : Bool} (hl : Ev prog w h₀ n sc σ l a) (hr : Ev prog w h₀ n sc σ r b) (ho : Cm prog w op a b c)
    (hm : behindInMarks op r = false := by with_unfolding_all rfl) : Ev prog w h₀ n sc σ (.Compare l [op] [r] pos) (.bool c) :=
  fun env he A s av Q E rm k0 ha sees q => wpAny_Compare1 (hl env he A s av _ _ rm k0 ha sees fun x h1 t1 k1 r1 =>
    hr env he A _ av _ _ rm (k0.trans k1) (ha.keeps k1) (sees.keeps k1) fun y h2 t2 k2 r2 =>
      ho A _ av x y _ _ (rm.mono (Nat.zero_le _)) ((ha.keeps k1).keeps k2) (r1.mono (k2.seq av)) r2 fun h3 t3 k3 => q _ h3 t3 ((k1.trans k2).trans k3) rfl) hm

theorem tr_cmp {l r : Expr} {op : CmpOp} {pos : Pos} {a b : D} {c : Bool} (hl : Ev prog w h₀ n sc σ l a) (hr : Ev prog w h₀ n sc σ r b) (ho : Cm prog w op a b c)
    (hm : behindInMarks op r = false := by with_unfolding_all rfl) : Tr prog w h₀ n sc σ (.Compare l [op] [r] pos) c :=
  fun env he A s av Q E rm k0 ha sees q => wpAny_isTrue_Compare1 (hl env he A s av _ _ rm k0 ha sees fun x h1 t1 k1 r1 =>
    hr env he A _ av _ _ rm (k0.trans k1) (ha.keeps k1) (sees.keeps k1) fun y h2 t2 k2 r2 =>
      ho A _ av x y _ _ (rm.mono (Nat.zero_le _)) ((ha.keeps k1).keeps k2) (r1.mono (k2.seq av)) r2 fun h3 t3 k3 => wpAny_truthy_bool (q h3 t3 ((k1.trans k2).trans k3))) hm

theorem tr_not {e : Expr} {pos : Pos} {b : Bool} (h : Tr prog w h₀ n sc σ e b) : Tr prog w h₀ n sc σ (.UnaryOp .Not e pos) (!b) :=
  fun env he A s av Q E rm k0 ha sees q => wpAny_isTrue_Not (h env he A s av _ _ rm k0 ha sees q)

/-- all of, one of -/
def TrAnd (prog : Program) (w : World) (h₀ : Heap) (n : Nat) (sc : Scope) (σ : Sto) (es : List Expr) (b : Bool) : Prop :=
  ∀ (env : Env), EnvFor sc env → ∀ (A : Around) (s : Shared) (av : Addr → Prop) (Q : Bool → Shared → Prop) (E : Value → Shared → Prop),
    Room n A → Kp h₀ s.heap → AvIn av s.heap → Sees s.heap av env σ → (∀ h' tk, Kp s.heap h' → Q b { s with heap := h', toks := tk }) → wpAny (model prog w) A (allTrue .And es env) Q E s
def TrOr (prog : Program) (w : World) (h₀ : Heap) (n : Nat) (sc : Scope) (σ : Sto) (es : List Expr) (b : Bool) : Prop :=
  ∀ (env : Env), EnvFor sc env → ∀ (A : Around) (s : Shared) (av : Addr → Prop) (Q : Bool → Shared → Prop) (E : Value → Shared → Prop),
    Room n A → Kp h₀ s.heap → AvIn av s.heap → Sees s.heap av env σ → (∀ h' tk, Kp s.heap h' → Q b { s with heap := h', toks := tk }) → wpAny (model prog w) A (allTrue .Or es env) Q E s
theorem trAnd_nil : TrAnd prog w h₀ n sc σ [] true := fun _ _ _ s _ _ _ _ _ _ _ q => wpAny_allTrue_And_nil (q s.heap s.toks (Kp.refl _))
theorem trOr_nil : TrOr prog w h₀ n sc σ [] false := fun _ _ _ s _ _ _ _ _ _ _ q => wpAny_allTrue_Or_nil (q s.heap s.toks (Kp.refl _))
theorem trAnd_cons {e : Expr} {es : List Expr} {b c : Bool} (h : Tr prog w h₀ n sc σ e b) (hr : b = true → TrAnd prog w h₀ n sc σ es c) : TrAnd prog w h₀ n sc σ (e :: es) (b && c) :=
  fun env he A s av Q E rm k0 ha sees q => wpAny_allTrue_And_cons (h env he A s av _ _ rm k0 ha sees fun h1 t1 k1 => by
    cases b
    · exact q h1 t1 k1
    · exact hr rfl env he A _ av _ _ rm (k0.trans k1) (ha.keeps k1) (sees.keeps k1) fun h2 t2 k2 => q h2 t2 (k1.trans k2))
theorem trOr_cons {e : Expr} {es : List Expr} {b c : Bool} (h : Tr prog w h₀ n sc σ e b) (hr : b = false → TrOr prog w h₀ n sc σ es c) : TrOr prog w h₀ n sc σ (e :: es) (b || c) :=
  fun env he A s av Q E rm k0 ha sees q => wpAny_allTrue_Or_cons (h env he A s av _ _ rm k0 ha sees fun h1 t1 k1 => by
    cases b
    · exact hr rfl env he A _ av _ _ rm (k0.trans k1) (ha.keeps k1) (sees.keeps k1) fun h2 t2 k2 => q h2 t2 (k1.trans k2)
    · exact q h1 t1 k1)
theorem tr_and {es : List Expr} {pos : Pos} {b : Bool} (h : TrAnd prog w h₀ n sc σ es b) : Tr prog w h₀ n sc σ (.BoolOp .And es pos) b :=
  fun env he A s av Q E rm k0 ha sees q => wpAny_isTrue_BoolOp (h env he A s av _ _ rm k0 ha sees q)
theorem tr_or {es : List Expr} {pos : Pos} {b : Bool} (h : TrOr prog w h₀ n sc σ es b) : Tr prog w h₀ n sc σ (.BoolOp .Or es pos) b :=
  fun env he A s av Q E rm k0 ha sees q => wpAny_isTrue_BoolOp (h env he A s av _ _ rm k0 ha sees q)

/-- a bool that is no comparison, not, and, or -/
theorem tr_bool {e : Expr} {b : Bool} (h : Ev prog w h₀ n sc σ e (.bool b)) (hp : ∀ env whole, isTrue e env whole = (do let v ← whole; standAt e.pos; holding [v] (truthy v)) := by intro _ _; rfl) : Tr prog w h₀ n sc σ e b :=
  fun env he A s av Q E rm k0 ha sees q => wpAny_isTrue_value (h env he A s av _ _ rm k0 ha sees fun v h1 t1 k1 r1 => by
    rw [show v = .bool b from r1]; exact wpAny_truthy_bool (q h1 t1 k1)) (hp env _)

/-- a row of expressions -/
def EvL (prog : Program) (w : World) (h₀ : Heap) (n : Nat) (sc : Scope) (σ : Sto) (es : List Expr) (ds : List D) : Prop :=
  ∀ (env : Env), EnvFor sc env → ∀ (A : Around) (s : Shared) (av : Addr → Prop) (pos : Pos) (Q : List Value → Shared → Prop) (E : Value → Shared → Prop),
    Room n A → Kp h₀ s.heap → AvIn av s.heap → Sees s.heap av env σ →
    (∀ vs h' tk, Kp s.heap h' → RepL h' av ds vs → Q vs { s with heap := h', toks := tk }) → wpAny (model prog w) A (spliced (backTo pos (starEach es env))) Q E s
theorem evL_nil : EvL prog w h₀ n sc σ [] [] := fun _ _ _ s _ _ _ _ _ _ _ _ q => wpAny_items_nil (q [] s.heap s.toks (Kp.refl _) rfl)
theorem evL_cons {e : Expr} {es : List Expr} {d : D} {ds : List D} (h : Ev prog w h₀ n sc σ e d) (hr : EvL prog w h₀ n sc σ es ds)
    (hs : ∀ env, starEach (e :: es) env = (false, eval e env) :: starEach es env := by intro _; rfl) : EvL prog w h₀ n sc σ (e :: es) (d :: ds) :=
  fun env he A s av pos Q E rm k0 ha sees q => wpAny_items_cons (h env he A s av _ _ rm k0 ha sees fun v h1 t1 k1 r1 =>
    hr env he A _ av pos _ _ rm (k0.trans k1) (ha.keeps k1) (sees.keeps k1) fun vs h2 t2 k2 r2 => q (v :: vs) h2 t2 (k1.trans k2) ⟨v, vs, rfl, r1.mono (k2.seq av), r2⟩) (hs env)

theorem ev_tuple {es : List Expr} {k : Nat} {pos : Pos} {ds : List D} (h : EvL prog w h₀ n sc σ es ds) (hl : ds.length ≤ 1000 := by decide) : Ev prog w h₀ n sc σ (.Tuple es k pos) (.tup ds) :=
  fun env he A s av Q E rm k0 ha sees q => wpAny_Tuple (h env he A s av _ _ _ rm k0 ha sees fun vs h1 t1 k1 r1 =>
    ⟨by rw [r1.length]; unfold sizeLine; omega, q _ _ _ (k1.trans (Kp.push _ _)) ⟨_, vs, 0, rfl, (ha.keeps k1).new, Heap.get?_push_size _ rfl, r1.mono ((Kp.push _ _).seq av)⟩⟩)
theorem ev_list {es : List Expr} {pos : Pos} {ds : List D} (h : EvL prog w h₀ n sc σ es ds) (hl : ds.length ≤ 1000 := by decide) : Ev prog w h₀ n sc σ (.List es pos) (.lst ds) :=
  fun env he A s av Q E rm k0 ha sees q => wpAny_List (h env he A s av _ _ _ rm k0 ha sees fun vs h1 t1 k1 r1 =>
    ⟨by rw [r1.length]; unfold sizeLine; omega, q _ _ _ (k1.trans (Kp.push _ _)) ⟨_, vs, 0, rfl, (ha.keeps k1).new, Heap.get?_push_size _ rfl, r1.mono ((Kp.push _ _).seq av)⟩⟩)
end
end Mine
end

section
open PySem PySem.W PyProof.Rows PySem.Calls PySem.Spec
set_option Elab.async false
set_option linter.unusedVariables false
namespace Mine
section
variable {prog : Program} {w : World}

theorem bi_add {a b : Int} : Bi prog w .Add (.int a) (.int b) (.int (a + b)) := fun A s av x y Q E rm ha rx ry q => by
  obtain ⟨t, rfl⟩ := rx; obtain ⟨u, rfl⟩ := ry
  exact PyProof.Rows.add_int (q _ _ _ (Kp.refl _) ⟨_, rfl⟩)
theorem bi_sub {a b : Int} : Bi prog w .Sub (.int a) (.int b) (.int (a - b)) := fun A s av x y Q E rm ha rx ry q => by
  obtain ⟨t, rfl⟩ := rx; obtain ⟨u, rfl⟩ := ry
  exact PyProof.Rows.sub_int (q _ _ _ (Kp.refl _) ⟨_, rfl⟩)
theorem bi_mul {a b : Int} (hm : Builtin.Int.intBits a ≤ 64 := by decide +kernel) : Bi prog w .Mult (.int a) (.int b) (.int (a * b)) := fun A s av x y Q E rm ha rx ry q => by
  obtain ⟨t, rfl⟩ := rx; obtain ⟨u, rfl⟩ := ry
  exact PyProof.Rows.mul_int (q _ _ _ (Kp.refl _) ⟨_, rfl⟩) (.of_left hm)
theorem bi_mod {a b : Int} (hb : b ≠ 0) : Bi prog w .Mod (.int a) (.int b) (.int (a.fmod b)) := fun A s av x y Q E rm ha rx ry q => by
  obtain ⟨t, rfl⟩ := rx; obtain ⟨u, rfl⟩ := ry
  exact PyProof.Rows.mod_int hb (q _ _ _ (Kp.refl _) ⟨_, rfl⟩)
theorem bi_fdiv {a b : Int} (hb : b ≠ 0) (hp : b.natAbs < 1073741824) : Bi prog w .FloorDiv (.int a) (.int b) (.int (a.fdiv b)) := fun A s av x y Q E rm ha rx ry q => by
  obtain ⟨t, rfl⟩ := rx; obtain ⟨u, rfl⟩ := ry
  exact PyProof.Rows.floordiv_int hb (q _ _ _ (Kp.refl _) ⟨_, rfl⟩) (.inl (PyProof.noPylong_small hp))
theorem bi_pow {a n : Int} (hn : 0 ≤ n) (hsz : (Builtin.Int.intBits a : Int) * n ≤ 2 ^ 27) : Bi prog w .Pow (.int a) (.int n) (.int (a ^ n.toNat)) := fun A s av x y Q E rm ha rx ry q => by
  obtain ⟨t, rfl⟩ := rx; obtain ⟨u, rfl⟩ := ry
  exact PyProof.Rows.pow_int hn hsz (q _ _ _ (Kp.refl _) ⟨_, rfl⟩)
theorem bi_div_ii {a b : Int} (hb : b ≠ 0) (hfit : a.natAbs < 2 ^ 1023) : Bi prog w .Div (.int a) (.int b) (.flt (Float64.ofFrac (decide (a < 0) != decide (b < 0)) a.natAbs b.natAbs)) := fun A s av x y Q E rm ha rx ry q => by
  obtain ⟨t, rfl⟩ := rx; obtain ⟨u, rfl⟩ := ry
  exact PySem.Flt.div_ii_fits rm.1 hfit (fun e => absurd e hb) fun _ _ => q _ _ _ (Kp.refl _) ⟨_, rfl⟩
theorem bi_fadd {a b : UInt64} : Bi prog w .Add (.flt a) (.flt b) (.flt (Float64.add a b)) := fun A s av x y Q E rm ha rx ry q => by
  obtain ⟨t, rfl⟩ := rx; obtain ⟨u, rfl⟩ := ry
  exact add_float (q _ _ _ (Kp.refl _) ⟨_, rfl⟩)
theorem bi_fsub {a b : UInt64} : Bi prog w .Sub (.flt a) (.flt b) (.flt (Float64.sub a b)) := fun A s av x y Q E rm ha rx ry q => by
  obtain ⟨t, rfl⟩ := rx; obtain ⟨u, rfl⟩ := ry
  exact sub_float (q _ _ _ (Kp.refl _) ⟨_, rfl⟩)
theorem bi_fmul {a b : UInt64} : Bi prog w .Mult (.flt a) (.flt b) (.flt (Float64.mul a b)) := fun A s av x y Q E rm ha rx ry q => by
  obtain ⟨t, rfl⟩ := rx; obtain ⟨u, rfl⟩ := ry
  exact mul_float (q _ _ _ (Kp.refl _) ⟨_, rfl⟩)
theorem bi_fdivf {a b : UInt64} (hb : Float64.isZero b = false) : Bi prog w .Div (.flt a) (.flt b) (.flt (Float64.div a b)) := fun A s av x y Q E rm ha rx ry q => by
  obtain ⟨t, rfl⟩ := rx; obtain ⟨u, rfl⟩ := ry
  exact truediv_float_or rm.1 (fun e => by rw [hb] at e; cases e) fun _ => q _ _ _ (Kp.refl _) ⟨_, rfl⟩
theorem bi_fmod {a b : UInt64} (hb : Float64.isZero b = false) : Bi prog w .Mod (.flt a) (.flt b) (.flt (Float64.divmod a b).2) := fun A s av x y Q E rm ha rx ry q => by
  obtain ⟨t, rfl⟩ := rx; obtain ⟨u, rfl⟩ := ry
  exact PySem.Flt.mod_ff rm.1 (fun e => by rw [hb] at e; cases e) fun _ => q _ _ _ (Kp.refl _) ⟨_, rfl⟩
theorem bi_mul_if {n : Int} {a : UInt64} (hf : n.natAbs < 2 ^ 1023) : Bi prog w .Mult (.int n) (.flt a) (.flt (Float64.mul (Float64.ofInt n) a)) := fun A s av x y Q E rm ha rx ry q => by
  obtain ⟨t, rfl⟩ := rx; obtain ⟨u, rfl⟩ := ry
  exact mul_if_fits hf (q _ _ _ (Kp.refl _) ⟨_, rfl⟩)
theorem bi_sub_fi {n : Int} {a : UInt64} (hf : n.natAbs < 2 ^ 1023) : Bi prog w .Sub (.flt a) (.int n) (.flt (Float64.sub a (Float64.ofInt n))) := fun A s av x y Q E rm ha rx ry q => by
  obtain ⟨t, rfl⟩ := rx; obtain ⟨u, rfl⟩ := ry
  exact sub_fi_fits hf (q _ _ _ (Kp.refl _) ⟨_, rfl⟩)
theorem bi_str {a b : Str} (hsz : a.length + b.length ≤ 1000) : Bi prog w .Add (.str a) (.str b) (.str (a ++ b)) := fun A s av x y Q E rm ha rx ry q => by
  obtain ⟨t, rfl⟩ := rx; obtain ⟨u, rfl⟩ := ry
  exact PyProof.Rows.add_str (fun t' tk => q _ _ _ (Kp.refl _) ⟨_, rfl⟩) (by unfold sizeLine; omega)
theorem bi_strMul {a : Str} {n : Int} (hok : MulOk a n) : Bi prog w .Mult (.str a) (.int n) (.str (Txt.mul a n)) := fun A s av x y Q E rm ha rx ry q => by
  obtain ⟨t, rfl⟩ := rx; obtain ⟨u, rfl⟩ := ry
  exact SB.mul hok fun t' k => q _ _ _ (Kp.refl _) ⟨_, rfl⟩
theorem bi_lst {as bs : List D} (hsz : as.length + bs.length ≤ 1000 := by decide) : Bi prog w .Add (.lst as) (.lst bs) (.lst (as ++ bs)) := fun A s av x y Q E rm ha rx ry q => by
  obtain ⟨a, vs, n, rfl, na, ea, ra⟩ := rx; obtain ⟨b, us, m, rfl, nb, eb, rb⟩ := ry
  refine P.add_list ea eb (q _ _ _ (Kp.push _ _) ⟨_, vs ++ us, 0, rfl, ha.new, ?_, (ra.append rb).mono ((Kp.push _ _).seq av)⟩) (by have := ra.length; have := rb.length; unfold sizeLine; simp only [List.size_toArray]; omega)
  rw [List.append_toArray]
  exact Heap.get?_push_size _ rfl

theorem cm_eq {a b : Int} : Cm prog w .Eq (.int a) (.int b) (a == b) := fun A s av x y Q E rm ha rx ry q => by
  obtain ⟨t, rfl⟩ := rx; obtain ⟨u, rfl⟩ := ry
  exact PyProof.Rows.eq_int (q s.heap s.toks (Kp.refl _))
theorem cm_ge {a b : Int} : Cm prog w .GtE (.int a) (.int b) (decide (b ≤ a)) := fun A s av x y Q E rm ha rx ry q => by
  obtain ⟨t, rfl⟩ := rx; obtain ⟨u, rfl⟩ := ry
  exact PyProof.Rows.ge_int (q s.heap s.toks (Kp.refl _))
theorem cm_lt {a b : Int} : Cm prog w .Lt (.int a) (.int b) (decide (a < b)) := fun A s av x y Q E rm ha rx ry q => by
  obtain ⟨t, rfl⟩ := rx; obtain ⟨u, rfl⟩ := ry
  exact PyProof.Rows.lt_int (q s.heap s.toks (Kp.refl _))
theorem cm_ne {a b : Int} : Cm prog w .NotEq (.int a) (.int b) (a != b) := fun A s av x y Q E rm ha rx ry q => by
  obtain ⟨t, rfl⟩ := rx; obtain ⟨u, rfl⟩ := ry
  exact PyProof.Rows.ne_int (q s.heap s.toks (Kp.refl _))
theorem cm_feq {a b : UInt64} : Cm prog w .Eq (.flt a) (.flt b) (Float64.cmp a b == some .eq) := fun A s av x y Q E rm ha rx ry q => by
  obtain ⟨t, rfl⟩ := rx; obtain ⟨u, rfl⟩ := ry
  exact AutoFloatOps.eq_0 (q s.heap s.toks (Kp.refl _))
theorem cm_flt {a b : UInt64} : Cm prog w .Lt (.flt a) (.flt b) (Float64.cmp a b == some .lt) := fun A s av x y Q E rm ha rx ry q => by
  obtain ⟨t, rfl⟩ := rx; obtain ⟨u, rfl⟩ := ry
  exact AutoFloatOps.lt_0 (q s.heap s.toks (Kp.refl _))
theorem cm_fle {a b : UInt64} : Cm prog w .LtE (.flt a) (.flt b) (Float64.cmp a b == some .lt || Float64.cmp a b == some .eq) := fun A s av x y Q E rm ha rx ry q => by
  obtain ⟨t, rfl⟩ := rx; obtain ⟨u, rfl⟩ := ry
  exact AutoFloatOps.le_0 (q s.heap s.toks (Kp.refl _))
theorem cm_flt_i {a : UInt64} {b : Int} : Cm prog w .Lt (.flt a) (.int b) (Float64.cmpInt a b == some .lt) := fun A s av x y Q E rm ha rx ry q => by
  obtain ⟨t, rfl⟩ := rx; obtain ⟨u, rfl⟩ := ry
  exact lt_fi (q s.heap s.toks (Kp.refl _))
theorem cm_fge_i {a : UInt64} {b : Int} : Cm prog w .GtE (.flt a) (.int b) (Float64.cmpInt a b == some .gt || Float64.cmpInt a b == some .eq) := fun A s av x y Q E rm ha rx ry q => by
  obtain ⟨t, rfl⟩ := rx; obtain ⟨u, rfl⟩ := ry
  exact ge_fi (q s.heap s.toks (Kp.refl _))
theorem cm_seq {a b : Str} : Cm prog w .Eq (.str a) (.str b) (a == b) := fun A s av x y Q E rm ha rx ry q => by
  obtain ⟨t, rfl⟩ := rx; obtain ⟨u, rfl⟩ := ry
  exact PyProof.Rows.eq_str (q s.heap s.toks (Kp.refl _))
theorem cm_sne {a b : Str} : Cm prog w .NotEq (.str a) (.str b) (a != b) := fun A s av x y Q E rm ha rx ry q => by
  obtain ⟨t, rfl⟩ := rx; obtain ⟨u, rfl⟩ := ry
  exact PyProof.Rows.ne_str (q s.heap s.toks (Kp.refl _))
theorem cm_isnot {a b : Bool} : Cm prog w .IsNot (.bool a) (.bool b) (!(a == b)) := fun A s av x y Q E rm ha rx ry q => by
  rw [show x = .bool a from rx, show y = .bool b from ry]
  have := q s.heap s.toks (Kp.refl _)
  refine wpAny_isNot_plain (by cases a <;> cases b <;> rfl) ?_
  rw [show (Value.bool a == Value.bool b) = (a == b) by cases a <;> cases b <;> rfl]
  exact this

/-- flat lists -/
def flatP : D → Option PyData
  | .bool b => some (.bool b)
  | .int i => some (.int i)
  | .str x => if PyData.strOk x then some (.str x) else none
  | _ => none
def flats : List D → Bool
  | [] => true
  | d :: r => (flatP d).isSome && flats r
def flatPs (ds : List D) : List PyData := ds.filterMap flatP
theorem flat_reads {h : Heap} {av : Addr → Prop} : ∀ {ds : List D} {vs : List Value}, flats ds = true → RepL h av ds vs → ReadsAll h vs (flatPs ds) []
  | [], _, _, r => by rw [show _ = [] from r]; exact .nil
  | d :: ds, _, hf, r => by
    obtain ⟨v, q, rfl, r1, r2⟩ := r
    simp only [flats, Bool.and_eq_true] at hf
    have ih := flat_reads hf.2 r2
    cases d with
    | bool b => rw [show v = .bool b from r1]; exact ReadsAll.cons (as := []) (.bool b) ih
    | int i => obtain ⟨t, rfl⟩ := r1; exact ReadsAll.cons (as := []) (.int i t) ih
    | str x =>
      obtain ⟨t, rfl⟩ := r1
      have hs : PyData.strOk x = true := by
        have := hf.1
        unfold flatP at this
        split at this <;> simp_all
      have e : flatPs (.str x :: ds) = .str x :: flatPs ds := by simp [flatPs, flatP, hs]
      rw [e]
      exact ReadsAll.cons (as := []) (.str x t) ih
    | _ => simp [flatP] at hf
theorem flat_lay : ∀ {ds : List D}, flats ds = true → PyData.canLayAll0 (flatPs ds) = true ∧ PyData.depthAll (flatPs ds) ≤ 1 ∧ PyData.eqvAll (flatPs ds) (flatPs ds) = true
  | [], _ => by simp [flatPs, PyData.canLayAll0, PyData.depthAll, PyData.eqvAll]
  | d :: ds, hf => by
    simp only [flats, Bool.and_eq_true] at hf
    obtain ⟨i1, i2, i3⟩ := flat_lay hf.2
    unfold flatPs at i1 i2 i3 ⊢
    cases d with
    | bool b => simp [flatP, PyData.canLayAll0, PyData.canLay0, PyData.depthAll, PyData.depth, PyData.eqvAll, PyData.eqv, i1, i2, i3]
    | int i => simp [flatP, PyData.canLayAll0, PyData.canLay0, PyData.depthAll, PyData.depth, PyData.eqvAll, PyData.eqv, i1, i2, i3]
    | str x =>
      have hs : PyData.strOk x = true := by
        have := hf.1
        unfold flatP at this
        split at this <;> simp_all
      simp [flatP, hs, PyData.canLayAll0, PyData.canLay0, PyData.depthAll, PyData.depth, PyData.eqvAll, PyData.eqv, i1, i2, i3]
    | _ => simp [flatP] at hf
theorem cm_lst_ne {ds : List D} (hf : flats ds = true) : Cm prog w .NotEq (.lst ds) (.lst ds) false := fun A s av x y Q E rm ha rx ry q => by
  obtain ⟨a, vs, n, rfl, na, ea, ra⟩ := rx; obtain ⟨b, us, m, rfl, nb, eb, rb⟩ := ry
  obtain ⟨l1, l2, l3⟩ := flat_lay hf
  have sh : SeqAt.shaped (.list (flatPs ds)) = true := by
    unfold SeqAt.shaped
    rw [Bool.and_eq_true]
    refine ⟨by simp only [PyData.canLay0]; exact l1, decide_eq_true ?_⟩
    simp only [PyData.depth]; omega
  refine ne_dataH (reads_list_at ea rfl rfl (by simpa using flat_reads hf ra)) (reads_list_at eb rfl rfl (by simpa using flat_reads hf rb)) sh sh (by have := rm.2.2; omega) ?_
  simp only [PyData.eqv, l3, Bool.not_true]
  exact q s.heap s.toks (Kp.refl _)
end
end Mine
end

section
open PySem PySem.W PyProof.Rows PySem.Calls PySem.Spec
set_option Elab.async false
set_option linter.unusedVariables false
namespace Mine

theorem Rep.list {h : Heap} {av : Addr → Prop} {xs : List D} {v : Value} (r : Rep h av (.lst xs) v) : ∃ a vs n, v = .ref a ∧ ¬ av a ∧ h.get? a = some (lstO vs n) ∧ RepL h av xs vs := r
theorem isL {h : Heap} {a : Addr} {vs : List Value} {n : Nat} (e : h.get? a = some (lstO vs n)) : h.IsList a vs.toArray := ⟨_, e, rfl, _, rfl⟩
theorem isT {h : Heap} {a : Addr} {vs : List Value} {n : Nat} (e : h.get? a = some (tupO vs n)) : h.IsTuple a vs.toArray := ⟨_, e, rfl, _, rfl⟩

section
variable {prog : Program} {w : World} {K : Frag} {h₀ : Heap} {n : Nat} {sc : Scope} {σ : Sto}

theorem ev_neg {e : Expr} {pos : Pos} {i : Int} (h : Ev prog w h₀ n sc σ e (.int i)) : Ev prog w h₀ n sc σ (.UnaryOp .USub e pos) (.int (-i)) :=
  fun env he A s av Q E rm k0 ha sees q => wpAny_UnaryOp (h env he A s av _ _ rm k0 ha sees fun v h1 t1 k1 r1 => by
    obtain ⟨t, rfl⟩ := r1
    exact PyProof.Rows.neg_int (q _ _ _ k1 ⟨_, rfl⟩))

/-- any subscript whose type has a built-in __getitem__ -/
theorem sub_tail {A : Around} {E : Value → Shared → Prop} {s : Shared} {value slice : Expr} {o i : Value} {T id : String} {Q : Value → Shared → Prop} (hT : s.TypeIs o T)
    (hl : typeLookup (.type T) "__getitem__" = pure (some (.builtin id))) (h : wpAny (model prog w) A (getItem o i) Q E s)
    (hs : subscripted slice false o i = operate [o, i] (getItem o i) ∨ subscripted slice false o i = operate [i, o] (getItem o i)) : wpAny (model prog w) A (subscriptTail value slice o i) Q E s :=
  hs.elim (fun e => tail_any hT hl h e) fun e => tail_any hT hl h e

theorem ev_item {value slice : Expr} {pos : Pos} {xs : List D} {k : Int} {d : D} (hv : Ev prog w h₀ n sc σ value (.lst xs)) (hi : Ev prog w h₀ n sc σ slice (.int k)) (h0 : 0 ≤ k) (h1 : k < 2 ^ 63) (hx : xs[k.toNat]? = some d)
    (hs : ∀ o i, subscripted slice false o i = operate [o, i] (getItem o i) := by intro _ _; rfl) : Ev prog w h₀ n sc σ (.Subscript value slice pos) d :=
  fun env he A s av Q E rm k0 ha sees q => Subscript_ (hv env he A s av _ _ rm k0 ha sees fun o h1' t1 k1 r1 =>
    hi env he A _ av _ _ rm (k0.trans k1) (ha.keeps k1) (sees.keeps k1) fun i h2 t2 k2 r2 => by
      obtain ⟨a, vs, m, rfl, na, ea, ra⟩ := r1
      obtain ⟨t, rfl⟩ := r2
      obtain ⟨v, ev, rv⟩ := (ra.mono (k2.seq av)).get hx
      have hl := isL (k2 _ _ ea)
      exact sub_tail (IsList.typeIs' hl) slot_list_getitem.lookup (wpAny_getItem_list hl h0 h1 (by simpa using ev) (q v h2 t2 (k1.trans k2) rv)) (.inl (hs _ _)))
where IsList.typeIs' {s : Shared} {a : Addr} {items : Array Value} (x : s.heap.IsList a items) : s.TypeIs (.ref a) "list" := x.typeIs

theorem ev_strItem {value slice : Expr} {pos : Pos} {x : Str} {k : Int} {c : Nat} (hv : Ev prog w h₀ n sc σ value (.str x)) (hi : Ev prog w h₀ n sc σ slice (.int k))
    (hr : (decide (k < -(2 ^ 63 : Int)) || decide (k ≥ 2 ^ 63)) = false) (hc : (seqIndex? k x.length).bind (x.cps[·]?) = some c)
    (hs : ∀ o i, subscripted slice false o i = operate [o, i] (getItem o i) := by intro _ _; rfl) : Ev prog w h₀ n sc σ (.Subscript value slice pos) (.str ⟨#[c]⟩) :=
  fun env he A s av Q E rm k0 ha sees q => Subscript_ (hv env he A s av _ _ rm k0 ha sees fun o h1' t1 k1 r1 =>
    hi env he A _ av _ _ rm (k0.trans k1) (ha.keeps k1) (sees.keeps k1) fun i h2 t2 k2 r2 => by
      obtain ⟨t, rfl⟩ := r1
      obtain ⟨u, rfl⟩ := r2
      exact sub_tail (typeIs_str _ x t) slot_str_getitem.lookup (getItem_str hr hc (q _ _ _ (k1.trans k2) ⟨_, rfl⟩)) (.inl (hs _ _)))

/-- a bound of a slice -/
inductive EvP (prog : Program) (w : World) (h₀ : Heap) (n : Nat) (sc : Scope) (σ : Sto) : Option Expr → Option Int → Prop
  | none : EvP prog w h₀ n sc σ none none
  | some {e : Expr} {i : Int} : Ev prog w h₀ n sc σ e (.int i) → EvP prog w h₀ n sc σ (some e) (some i)
theorem evP_step {p : Option Expr} {b : Option Int} (h : EvP prog w h₀ n sc σ p b) {env : Env} (he : EnvFor sc env) {A : Around} {s : Shared} {av : Addr → Prop} {Q : Value → Shared → Prop} {E : Value → Shared → Prop}
    (rm : Room n A) (k0 : Kp h₀ s.heap) (ha : AvIn av s.heap) (sees : Sees s.heap av env σ)
    (q : ∀ v t h' tk, Kp s.heap h' → IsPart v b → (v = match b with | Option.none => Value.none | Option.some i => .int i t) → Q v { s with heap := h', toks := tk }) : wpAny (model prog w) A (evalPart p env) Q E s := by
  cases h with
  | none => exact evalPart_none_step (q .none 0 s.heap s.toks (Kp.refl _) .none rfl)
  | some h => exact evalPart_some_step (h env he A s av _ _ rm k0 ha sees fun v h1 t1 k1 r1 => by
      obtain ⟨t, rfl⟩ := r1
      exact q _ t h1 t1 k1 (.int _ _) rfl)

def cut (ds : List D) (lo hi : Option Int) : List D := (ds.drop (lo.elim 0 (clipAt ds.length))).take (hi.elim ds.length (clipAt ds.length) - lo.elim 0 (clipAt ds.length))

theorem ev_slice {value : Expr} {lower upper : Option Expr} {p pos : Pos} {xs : List D} {lo hi : Option Int} (hv : Ev prog w h₀ n sc σ value (.lst xs)) (hlo : EvP prog w h₀ n sc σ lower lo) (hhi : EvP prog w h₀ n sc σ upper hi)
    (hsz : xs.length ≤ 1000) : Ev prog w h₀ n sc σ (.Subscript value (.Slice lower upper none p) pos) (.lst (cut xs lo hi)) :=
  fun env he A s av Q E rm k0 ha sees q => Subscript_ (hv env he A s av _ _ rm k0 ha sees fun o h1 t1 k1 r1 => by
    refine wpAny_Slice (evP_step hlo he rm (k0.trans k1) (ha.keeps k1) (sees.keeps k1) fun l tl h2 t2 k2 pl _ =>
      evP_step hhi he rm ((k0.trans k1).trans k2) ((ha.keeps k1).keeps k2) ((sees.keeps k1).keeps k2) fun u tu h3 t3 k3 pu _ => evalPart_none_step ?_)
    obtain ⟨a, vs, m, rfl, na, ea, ra⟩ := r1
    have e3 := k3 _ _ (k2 _ _ ea)
    have hl : (h3.push { cls := .type "slice", data := .fields #[l, u, .none] }).IsList a vs.toArray := isL (Kp.push _ _ _ _ e3)
    have hav : AvIn av (h3.push { cls := .type "slice", data := .fields #[l, u, .none] }) := ((((ha.keeps k1).keeps k2).keeps k3)).keeps (Kp.push _ _)
    refine sub_tail (ev_item.IsList.typeIs' hl) slot_list_getitem.lookup (wpAny_getItem_list_slice hl (Heap.IsSliceOf.new _ _ _ _) pl pu .none (by simp) ?_ ?_) (.inr rfl)
    · refine q _ _ _ (((k1.trans k2).trans k3).trans ((Kp.push _ _).trans (Kp.push _ _))) ⟨_, (vs.drop (lo.elim 0 (clipAt xs.length))).take (hi.elim xs.length (clipAt xs.length) - lo.elim 0 (clipAt xs.length)), 0, rfl, hav.new, ?_, ?_⟩
      · rw [slicePick_plain]
        simp only [List.size_toArray, ra.length]
        exact Heap.get?_push_size _ rfl
      · exact (((ra.mono ((((k2.trans k3).trans ((Kp.push _ _).trans (Kp.push _ _)))).seq av)).drop _).take _)
    · have := ra.length; unfold sizeLine; simp only [List.size_toArray]; omega)

theorem ev_strSlice {value : Expr} {lower upper : Option Expr} {p pos : Pos} {x : Str} {lo hi : Option Int} (hv : Ev prog w h₀ n sc σ value (.str x)) (hlo : EvP prog w h₀ n sc σ lower lo) (hhi : EvP prog w h₀ n sc σ upper hi)
    (hsz : x.length ≤ 1000) : Ev prog w h₀ n sc σ (.Subscript value (.Slice lower upper none p) pos) (.str (Txt.slice x lo hi)) :=
  fun env he A s av Q E rm k0 ha sees q => Subscript_ (hv env he A s av _ _ rm k0 ha sees fun o h1 t1 k1 r1 => by
    refine wpAny_Slice (evP_step hlo he rm (k0.trans k1) (ha.keeps k1) (sees.keeps k1) fun l tl h2 t2 k2 pl el =>
      evP_step hhi he rm ((k0.trans k1).trans k2) ((ha.keeps k1).keeps k2) ((sees.keeps k1).keeps k2) fun u tu h3 t3 k3 pu eu => evalPart_none_step ?_)
    obtain ⟨t, rfl⟩ := r1
    have fin := fun t' k => q (.str (Txt.slice x lo hi) t') (h3.push { cls := .type "slice", data := .fields #[l, u, .none] }) k (((k1.trans k2).trans k3).trans (Kp.push _ _)) ⟨_, rfl⟩
    have hz : (Txt.slice x lo hi).length ≤ sizeLine := Nat.le_trans (Txt.slice_le x _ _) (by unfold sizeLine; omega)
    refine sub_tail (typeIs_str _ x t) F.slot_str_getitem.lookup ?_ (.inr rfl)
    cases lo with
    | none =>
      cases hi with
      | none => subst el eu; exact wpAny_getItem_str_slice (l := none) (u := none) (st := none) ⟨_, Heap.get?_push_size _ rfl, rfl, rfl⟩ rfl (post_val_or_str ⟨hz, fin⟩)
      | some j => subst el eu; exact wpAny_getItem_str_slice (l := none) (u := some (j, tu)) (st := none) ⟨_, Heap.get?_push_size _ rfl, rfl, rfl⟩ rfl (post_val_or_str ⟨hz, fin⟩)
    | some i =>
      cases hi with
      | none => subst el eu; exact wpAny_getItem_str_slice (l := some (i, tl)) (u := none) (st := none) ⟨_, Heap.get?_push_size _ rfl, rfl, rfl⟩ rfl (post_val_or_str ⟨hz, fin⟩)
      | some j => subst el eu; exact wpAny_getItem_str_slice (l := some (i, tl)) (u := some (j, tu)) (st := none) ⟨_, Heap.get?_push_size _ rfl, rfl, rfl⟩ rfl (post_val_or_str ⟨hz, fin⟩))

/-- global names -/
theorem glob_val (C : Cx K h₀) {env : Env} {x : Str} {pos : Pos} {A : Around} {s : Shared} {Q : Value → Shared → Prop} {E : Value → Shared → Prop} {v : Value} (he : EnvFor sc env) (k0 : Kp h₀ s.heap) (hk : sc.kind = .function)
    (hx : sc.names.lookup x = some .globalImplicit) (hv : nsIn K mainGlobals x = some (some v)) (hd : (x == ("__debug__" : Str)) = false) (q : Q v s) : wpAny (model prog w) A (eval (.Name x pos) env) Q E s := by
  refine Name_function_global (by rw [he.scope]; exact hk) (by rw [he.kind]; exact hx) ?_ hd
  unfold loadGlobal
  rw [he.globals]
  exact wpAny_bind ((looks_nsIn (C.k.keeps k0) hv) _ _ _ _ (fun _ _ e => e) (wpAny_pure q))
theorem glob_boot (C : Cx K h₀) {env : Env} {x : Str} {pos : Pos} {A : Around} {s : Shared} {Q : Value → Shared → Prop} {E : Value → Shared → Prop} {v : Value} (he : EnvFor sc env) (k0 : Kp h₀ s.heap) (hk : sc.kind = .function)
    (hx : sc.names.lookup x = some .globalImplicit) (hv : nsIn K mainGlobals x = some none) (hb : bootBuiltins x = some v) (hn : x ≠ ("__name__" : Str)) (hd : (x == ("__debug__" : Str)) = false) (q : Q v s) : wpAny (model prog w) A (eval (.Name x pos) env) Q E s := by
  refine Name_function_global (by rw [he.scope]; exact hk) (by rw [he.kind]; exact hx) ?_ hd
  obtain ⟨mb, hb1, hb2⟩ := C.bns
  unfold loadGlobal
  rw [he.globals, he.builtins]
  refine wpAny_bind ((looks_nsIn (C.k.keeps k0) hv) _ _ _ _ (fun _ _ e => e) ?_)
  refine wpAny_bind (wpAny_nsGet (hb1.keeps k0) ?_)
  rw [hb2 x hn, hb]
  exact wpAny_pure q
theorem ev_globFloat (C : Cx K h₀) {x : Str} {pos : Pos} {u : UInt64} {t : Tok} (hx : sc.names.lookup x = some .globalImplicit) (hv : nsIn K mainGlobals x = some (some (.float u t))) (hk : sc.kind = .function := by rfl)
    (hd : (x == ("__debug__" : Str)) = false := by decide +kernel) : Ev prog w h₀ n sc σ (.Name x pos) (.flt u) :=
  fun env he A s av Q E rm k0 ha sees q => glob_val C he k0 hk hx hv hd (q _ s.heap s.toks (Kp.refl _) ⟨_, rfl⟩)

/-- a call of a def of the text's -/
def isDef (K : Frag) (f : Addr) : Bool := match K.lookup f with | some o => (match o.data with | .func _ => true | _ => false) | none => false
theorem ev_call (C : Cx K h₀) {x : Str} {p pos : Pos} {e : Expr} {es : List Expr} {ds : List D} {d : D} {f : Addr} (hx : sc.names.lookup x = some .globalImplicit) (hv : nsIn K mainGlobals x = some (some (.ref f))) (hf : isDef K f = true)
    (ha : EvL prog w h₀ n sc σ (e :: es) ds) (hc : Fn prog w h₀ n (.ref f) ds d) (hk : sc.kind = .function := by rfl) (hd : (x == ("__debug__" : Str)) = false := by decide +kernel)
    (hs : ∀ env, starEach (e :: es) env = (false, eval e env) :: starEach es env := by intro _; rfl) : Ev prog w h₀ n sc σ (.Call (.Name x p) (e :: es) [] pos) d :=
  fun env he A s av Q E rm k0 hav sees q => by
    refine Call_ (glob_val C he k0 hk hx hv hd ?_)
    unfold isDef at hf
    split at hf
    · rename_i o ho
      split at hf
      · rename_i fd hfd
        exact callWith_def hfd (ha env he A s av pos _ _ rm k0 hav sees fun vs h1 t1 k1 r1 => ⟨(C.k.keeps (k0.trans k1)) _ _ ho, hc A _ av vs _ _ rm (k0.trans k1) (hav.keeps k1) r1 fun v h2 t2 k2 r2 => q v h2 t2 (k1.trans k2) r2⟩) (hs env)
      · cases hf
    · cases hf
/-- a call of a built-in function -/
theorem ev_builtin (C : Cx K h₀) {x : Str} {p pos : Pos} {e : Expr} {es : List Expr} {ds : List D} {d : D} {id : String} (hx : sc.names.lookup x = some .globalImplicit) (hv : nsIn K mainGlobals x = some none) (hb : bootBuiltins x = some (.builtin id))
    (ha : EvL prog w h₀ n sc σ (e :: es) ds) (hc : Fn prog w h₀ n (.builtin id) ds d) (hn : x ≠ ("__name__" : Str) := by decide +kernel) (hk : sc.kind = .function := by rfl) (hd : (x == ("__debug__" : Str)) = false := by decide +kernel)
    (hs : ∀ env, starEach (e :: es) env = (false, eval e env) :: starEach es env := by intro _; rfl) (hp : ∀ env, (backTo pos (starEach es env)).any (·.1) = false := by intro _; rfl) : Ev prog w h₀ n sc σ (.Call (.Name x p) (e :: es) [] pos) d :=
  fun env he A s av Q E rm k0 hav sees q => Call_ (glob_boot C he k0 hk hx hv hb hn hd (callWith_builtin1 (ha env he A s av pos _ _ rm k0 hav sees fun vs h1 t1 k1 r1 =>
    hc A _ av vs _ _ rm (k0.trans k1) (hav.keeps k1) r1 fun v h2 t2 k2 r2 => q v h2 t2 (k1.trans k2) r2) (hs env) (hp env)))
theorem ev_type (C : Cx K h₀) {x : Str} {p pos : Pos} {e : Expr} {es : List Expr} {ds : List D} {d : D} {T : String} (hx : sc.names.lookup x = some .globalImplicit) (hv : nsIn K mainGlobals x = some none) (hb : bootBuiltins x = some (.type T))
    (ha : EvL prog w h₀ n sc σ (e :: es) ds) (hc : Fn prog w h₀ n (.type T) ds d) (hn : x ≠ ("__name__" : Str) := by decide +kernel) (hk : sc.kind = .function := by rfl) (hd : (x == ("__debug__" : Str)) = false := by decide +kernel)
    (hs : ∀ env, starEach (e :: es) env = (false, eval e env) :: starEach es env := by intro _; rfl) (hp : ∀ env, (backTo pos (starEach es env)).any (·.1) = false := by intro _; rfl) : Ev prog w h₀ n sc σ (.Call (.Name x p) (e :: es) [] pos) d :=
  fun env he A s av Q E rm k0 hav sees q => Call_ (glob_boot C he k0 hk hx hv hb hn hd (callWith_type1 (ha env he A s av pos _ _ rm k0 hav sees fun vs h1 t1 k1 r1 =>
    hc A _ av vs _ _ rm (k0.trans k1) (hav.keeps k1) r1 fun v h2 t2 k2 r2 => q v h2 t2 (k1.trans k2) r2) (hs env) (hp env)))
end
end Mine
end

section
open PySem PySem.W PyProof.Rows PySem.Calls PySem.Spec
open PySem.Builtin PySem.Builtin.Str
set_option Elab.async false
set_option linter.unusedVariables false
namespace Mine
section
variable {prog : Program} {w : World} {K : Frag} {h₀ : Heap} {n : Nat} {sc : Scope} {σ : Sto}

/-- three floats -/
def fmax3 (a b c : UInt64) : UInt64 := let m := if Float64.cmp a b == some .lt then b else a; if Float64.cmp m c == some .lt then c else m
def fmin3 (a b c : UInt64) : UInt64 := let m := if Float64.cmp b a == some .lt then b else a; if Float64.cmp c m == some .lt then c else m

theorem fn_max3 {a b c : UInt64} : Fn prog w h₀ n (.builtin "max") [.flt a, .flt b, .flt c] (.flt (fmax3 a b c)) := fun A s av vs Q E rm k0 ha r q => by
  obtain ⟨va, _, rfl, ⟨t, rfl⟩, vb, _, rfl, ⟨u, rfl⟩, vc, _, rfl, ⟨x, rfl⟩, rfl⟩ := r
  have hT : (s.heap.push { cls := .type "tuple", data := .seq #[.float a t, .float b u, .float c x] }).IsTuple s.heap.objs.size #[.float a t, .float b u, .float c x] := ⟨_, Heap.get?_push_size _ rfl, rfl, 0, rfl⟩
  refine call_max_three (wpAny_pyIter_tuple hT ?_)
  have hsz : (s.heap.push { cls := .type "tuple", data := .seq #[.float a t, .float b u, .float c x] }).objs.size = s.heap.objs.size + 1 := Heap.size_push ..
  refine ⟨_, [_, s.heap.objs.size], [_], _, _, _, _, rfl, Walks.tuple (A := A.in1) rm.1 _ s.heap.objs.size (by rw [hsz]; exact Nat.ne_of_lt (Nat.lt_succ_self _)) #[.float a t, .float b u, .float c x],
    ⟨⟨_, Heap.get?_push_size _ rfl, rfl, rfl⟩, hT.push _⟩, fun d hd => ?_, by simp, PySem.Flt.cmpOf_gt #[.float a t, .float b u, .float c x] (by intro v hv; simp at hv; rcases hv with rfl | rfl | rfl <;> exact .float _ _), fun v h' tk hP hk => ?_⟩
  · show d < ((s.heap.push _).push _).objs.size
    rw [Heap.size_push, hsz]
    rcases List.mem_cons.mp hd with rfl | hd
    · rw [hsz]; exact Nat.lt_succ_self _
    · rcases List.mem_cons.mp hd with rfl | hd
      · exact Nat.lt_succ_of_lt (Nat.lt_succ_self _)
      · cases hd
  · have hold : Kp s.heap h' := fun d o e => by
      refine hk d o (fun hm => ?_) (Heap.get?_push_of_some _ (Heap.get?_push_of_some _ e))
      rcases List.mem_cons.mp hm with e1 | hm
      · have := Heap.lt_size e; rw [e1, hsz] at this; exact Nat.lt_irrefl _ (Nat.lt_of_succ_lt this)
      · cases hm
    have hv : ∃ t', v = .float (fmax3 a b c) t' := by
      unfold fmax3
      cases h1 : Float64.cmp a b == some .lt
      · cases h2 : Float64.cmp a c == some .lt
        · simp [argBest, PySem.Flt.ltV, h1, h2] at hP; exact ⟨t, by simp [h2, hP]⟩
        · simp [argBest, PySem.Flt.ltV, h1, h2] at hP; exact ⟨x, by simp [h2, hP]⟩
      · cases h2 : Float64.cmp b c == some .lt
        · simp [argBest, PySem.Flt.ltV, h1, h2] at hP; exact ⟨u, by simp [h2, hP]⟩
        · simp [argBest, PySem.Flt.ltV, h1, h2] at hP; exact ⟨x, by simp [h2, hP]⟩
    exact q _ _ _ hold hv

theorem fn_min3 {a b c : UInt64} : Fn prog w h₀ n (.builtin "min") [.flt a, .flt b, .flt c] (.flt (fmin3 a b c)) := fun A s av vs Q E rm k0 ha r q => by
  obtain ⟨va, _, rfl, ⟨t, rfl⟩, vb, _, rfl, ⟨u, rfl⟩, vc, _, rfl, ⟨x, rfl⟩, rfl⟩ := r
  have hT : (s.heap.push { cls := .type "tuple", data := .seq #[.float a t, .float b u, .float c x] }).IsTuple s.heap.objs.size #[.float a t, .float b u, .float c x] := ⟨_, Heap.get?_push_size _ rfl, rfl, 0, rfl⟩
  refine call_min_three (wpAny_pyIter_tuple hT ?_)
  have hsz : (s.heap.push { cls := .type "tuple", data := .seq #[.float a t, .float b u, .float c x] }).objs.size = s.heap.objs.size + 1 := Heap.size_push ..
  refine ⟨_, [_, s.heap.objs.size], [_], _, _, _, _, rfl, Walks.tuple (A := A.in1) rm.1 _ s.heap.objs.size (by rw [hsz]; exact Nat.ne_of_lt (Nat.lt_succ_self _)) #[.float a t, .float b u, .float c x],
    ⟨⟨_, Heap.get?_push_size _ rfl, rfl, rfl⟩, hT.push _⟩, fun d hd => ?_, by simp, PySem.Flt.cmpOf_lt #[.float a t, .float b u, .float c x] (by intro v hv; simp at hv; rcases hv with rfl | rfl | rfl <;> exact .float _ _), fun v h' tk hP hk => ?_⟩
  · show d < ((s.heap.push _).push _).objs.size
    rw [Heap.size_push, hsz]
    rcases List.mem_cons.mp hd with rfl | hd
    · rw [hsz]; exact Nat.lt_succ_self _
    · rcases List.mem_cons.mp hd with rfl | hd
      · exact Nat.lt_succ_of_lt (Nat.lt_succ_self _)
      · cases hd
  · have hold : Kp s.heap h' := fun d o e => by
      refine hk d o (fun hm => ?_) (Heap.get?_push_of_some _ (Heap.get?_push_of_some _ e))
      rcases List.mem_cons.mp hm with e1 | hm
      · have := Heap.lt_size e; rw [e1, hsz] at this; exact Nat.lt_irrefl _ (Nat.lt_of_succ_lt this)
      · cases hm
    have hv : ∃ t', v = .float (fmin3 a b c) t' := by
      unfold fmin3
      cases h1 : Float64.cmp b a == some .lt
      · cases h2 : Float64.cmp c a == some .lt
        · simp [argBest, PySem.Flt.ltV, h1, h2] at hP; exact ⟨t, by simp [h2, hP]⟩
        · simp [argBest, PySem.Flt.ltV, h1, h2] at hP; exact ⟨x, by simp [h2, hP]⟩
      · cases h2 : Float64.cmp c b == some .lt
        · simp [argBest, PySem.Flt.ltV, h1, h2] at hP; exact ⟨u, by simp [h2, hP]⟩
        · simp [argBest, PySem.Flt.ltV, h1, h2] at hP; exact ⟨x, by simp [h2, hP]⟩
    exact q _ _ _ hold hv

/-- lists of ints -/
theorem repL_ints {h : Heap} {av : Addr → Prop} : ∀ {ns : List Int} {vs : List Value}, RepL h av (ns.map .int) vs → IntsAre vs ns
  | [], _, r => by rw [show _ = [] from r]; exact .nil
  | i :: ns, _, r => by
    obtain ⟨v, q, rfl, ⟨t, rfl⟩, r2⟩ := r
    exact .cons i t (repL_ints r2)

def leastOf : List Int → Int
  | [] => 0
  | [a] => a
  | a :: b :: r => min a (leastOf (b :: r))
theorem leastOf_le : ∀ {ns : List Int} {a : Int}, a ∈ ns → leastOf ns ≤ a
  | [b], a, h => by simp at h; subst h; exact Int.le_refl _
  | b :: c :: r, a, h => by
    rcases List.mem_cons.mp h with rfl | h
    · exact Int.min_le_left _ _
    · exact Int.le_trans (Int.min_le_right _ _) (leastOf_le h)
theorem leastOf_mem : ∀ {ns : List Int}, ns ≠ [] → leastOf ns ∈ ns
  | [b], _ => by simp [leastOf]
  | b :: c :: r, _ => by
    have ih := leastOf_mem (ns := c :: r) (by simp)
    unfold leastOf
    rcases Int.le_total b (leastOf (c :: r)) with h | h
    · rw [Int.min_eq_left h]; simp
    · rw [Int.min_eq_right h]; exact List.mem_cons_of_mem _ ih
theorem leastOf_eq {ns : List Int} {M : Int} (h1 : M ∈ ns) (h2 : ∀ a, a ∈ ns → M ≤ a) : M = leastOf ns :=
  Int.le_antisymm (h2 _ (leastOf_mem (List.ne_nil_of_mem h1))) (leastOf_le h1)

theorem ints_items {vs : List Value} {ns : List Int} (hi : IntsAre vs ns) : ∃ xs : Array (Int × Tok), vs.toArray = intItems xs ∧ xs.toList.map (·.1) = ns := by
  induction hi with
  | nil => exact ⟨#[], by simp [intItems], rfl⟩
  | cons i t r ih =>
    obtain ⟨xs, e1, e2⟩ := ih
    refine ⟨#[(i, t)] ++ xs, ?_, by simp [e2]⟩
    have e3 := congrArg Array.toList e1
    apply Array.ext'
    simp [intItems] at e3 ⊢
    exact e3

theorem fn_min {ns : List Int} (hne : ns ≠ []) : Fn prog w h₀ n (.builtin "min") [.lst (ns.map .int)] (.int (leastOf ns)) := fun A s av vs Q E rm k0 ha r q => by
  obtain ⟨v, _, rfl, ⟨a, us, m, rfl, na, ea, ra⟩, rfl⟩ := r
  obtain ⟨xs, e1, e2⟩ := ints_items (repL_ints ra)
  have hl := isL ea
  rw [e1] at hl
  have hlen : xs.size = ns.length := by rw [← e2]; simp
  have hpos : 0 < xs.size := by rw [hlen]; exact List.length_pos_iff.mpr hne
  refine min_intList rm.1 hl hpos fun v h' tk hv hk => ?_
  obtain ⟨t, rfl⟩ := intItems_at hv
  obtain ⟨h1, h2⟩ := argBest_lt (numAt xs) (xs.size - 1)
  refine q _ _ _ hk ⟨t, ?_⟩
  congr 1
  refine leastOf_eq ?_ fun b hb => ?_
  · rw [numAt_eq, e2]; exact getD_mem (by omega)
  · obtain ⟨j, hj, rfl⟩ := mem_getD hb
    have := h2 j (by omega)
    rw [numAt_eq, numAt_eq, e2] at this
    rw [numAt_eq, e2]; exact this

theorem fn_sum {ns : List Int} (hf : PySem.SumFits ns) : Fn prog w h₀ n (.builtin "sum") [.lst (ns.map .int)] (.int ns.sum) := fun A s av vs Q E rm k0 ha r q => by
  obtain ⟨v, _, rfl, ⟨a, us, m, rfl, na, ea, ra⟩, rfl⟩ := r
  obtain ⟨xs, e1, e2⟩ := ints_items (repL_ints ra)
  have hl := isL ea
  rw [e1] at hl
  have hlen : xs.size = ns.length := by rw [← e2]; simp
  refine sum_intList rm.1 hl (fun j hj => ?_) fun h' tk t' hk => ?_
  · rw [numAt_eq, preSum_eq, e2]; exact hf j (by omega)
  · rw [preSum_eq, List.take_of_length_le (by simp), e2]
    exact q _ _ _ hk ⟨t', rfl⟩

theorem fn_len {ds : List D} (hl : ds.length ≤ 1000) : Fn prog w h₀ n (.builtin "len") [.lst ds] (.int ds.length) := fun A s av vs Q E rm k0 ha r q => by
  obtain ⟨v, _, rfl, ⟨a, us, m, rfl, na, ea, ra⟩, rfl⟩ := r
  have h1 := ra.length
  refine len_list (isL ea) (by simp only [List.size_toArray]; omega) ?_
  rw [List.size_toArray, h1]
  exact q _ _ _ (Kp.refl _) ⟨_, rfl⟩

theorem fn_int {x : UInt64} (hx : Float64.isFinite x = true) : Fn prog w h₀ n (.type "int") [.flt x] (.int (PySem.Flt.toInt Float64.truncOf x)) := fun A s av vs Q E rm k0 ha r q => by
  obtain ⟨v, _, rfl, ⟨t, rfl⟩, rfl⟩ := r
  refine PySem.Flt.call_int_float3 rm.1 (fun e => ?_) (fun e => ?_) fun _ => q _ _ _ (Kp.refl _) ⟨_, rfl⟩
  · rw [PySem.Flt.not_finite_of_nan e] at hx; cases hx
  · rw [PySem.Flt.not_finite_of_inf e] at hx; cases hx

/-- strs -/
theorem fn_lower {x : Str} (hf : tooLong (Txt.lower x).length = false) : Fn prog w h₀ n (.builtin "str.lower") [.str x] (.str (Txt.lower x)) := fun A s av vs Q E rm k0 ha r q => by
  obtain ⟨v, _, rfl, ⟨t, rfl⟩, rfl⟩ := r
  exact call_gives F.slot_str_lower (typeIs_str _ _ _) F.entry_str_lower (F.args_str_lower_1 _) (gives_str_lower x t hf) ⟨fit_le hf, q _ _ _ (Kp.refl _) ⟨_, rfl⟩⟩
theorem fn_upper {x : Str} (hf : tooLong (Txt.upper x).length = false) : Fn prog w h₀ n (.builtin "str.upper") [.str x] (.str (Txt.upper x)) := fun A s av vs Q E rm k0 ha r q => by
  obtain ⟨v, _, rfl, ⟨t, rfl⟩, rfl⟩ := r
  exact call_gives F.slot_str_upper (typeIs_str _ _ _) F.entry_str_upper (F.args_str_upper_1 _) (gives_str_upper x t hf) ⟨fit_le hf, q _ _ _ (Kp.refl _) ⟨_, rfl⟩⟩
theorem fn_startswith {x y : Str} : Fn prog w h₀ n (.builtin "str.startswith") [.str x, .str y] (.bool (Txt.startswith x y)) := fun A s av vs Q E rm k0 ha r q => by
  obtain ⟨v, _, rfl, ⟨t, rfl⟩, v', _, rfl, ⟨u, rfl⟩, rfl⟩ := r
  exact call_gives F.slot_str_startswith (typeIs_str _ _ _) F.entry_str_startswith (F.args_str_startswith_2 _ _) (gives_str_startswith x y t u) (q _ s.heap s.toks (Kp.refl _) rfl)
theorem fn_endswith {x y : Str} : Fn prog w h₀ n (.builtin "str.endswith") [.str x, .str y] (.bool (Txt.endswith x y)) := fun A s av vs Q E rm k0 ha r q => by
  obtain ⟨v, _, rfl, ⟨t, rfl⟩, v', _, rfl, ⟨u, rfl⟩, rfl⟩ := r
  exact call_gives F.slot_str_endswith (typeIs_str _ _ _) F.entry_str_endswith (F.args_str_endswith_2 _ _) (gives_str_endswith x y t u) (q _ s.heap s.toks (Kp.refl _) rfl)
theorem fn_find {x y : Str} : Fn prog w h₀ n (.builtin "str.find") [.str x, .str y] (.int (Txt.find x y)) := fun A s av vs Q E rm k0 ha r q => by
  obtain ⟨v, _, rfl, ⟨t, rfl⟩, v', _, rfl, ⟨u, rfl⟩, rfl⟩ := r
  exact call_gives F.slot_str_find (typeIs_str _ _ _) F.entry_str_find (F.args_str_find_2 _ _) (gives_str_find x y t u) (q _ _ _ (Kp.refl _) ⟨_, rfl⟩)
theorem repL_strs {h : Heap} {av : Addr → Prop} : ∀ {xs : List Str} {vs : List Value}, RepL h av (xs.map .str) vs → ∃ l : List (Str × Tok), vs = strValues l ∧ l.map (·.1) = xs
  | [], _, r => ⟨[], by rw [show _ = [] from r]; rfl, rfl⟩
  | x :: xs, _, r => by
    obtain ⟨v, q, rfl, ⟨t, rfl⟩, r2⟩ := r
    obtain ⟨l, e1, e2⟩ := repL_strs r2
    exact ⟨(x, t) :: l, by rw [e1]; rfl, by simp [e2]⟩
theorem strs_repL {h : Heap} {av : Addr → Prop} : ∀ (l : List (Str × Tok)), RepL h av ((l.map (·.1)).map .str) (strValues l)
  | [] => rfl
  | (x, t) :: r => ⟨_, _, rfl, ⟨t, rfl⟩, strs_repL r⟩
theorem fn_join {x : Str} {xs : List Str} (hok : JoinOk x xs = true) : Fn prog w h₀ n (.builtin "str.join") [.str x, .lst (xs.map .str)] (.str (Txt.join x xs)) := fun A s av vs Q E rm k0 ha r q => by
  obtain ⟨v, _, rfl, ⟨t, rfl⟩, v', _, rfl, ⟨a, us, m, rfl, na, ea, ra⟩, rfl⟩ := r
  obtain ⟨l, rfl, e2⟩ := repL_strs ra
  exact SC.join (isL ea) e2 hok fun t' k => q _ _ _ (Kp.refl _) ⟨_, rfl⟩
theorem fn_split {x y : Str} (h1 : (decide (x.length < y.length) || decide (strKind x < strKind y)) = false) (hy : (y.length == 0) = false) (hf : (occurrences x y 0 x.length (x.length + 1)).isEmpty = false) (hx : x.length ≤ sizeLine)
    (hn : (partsBetween x (occurrences x y 0 x.length (x.length + 1)) y.length).length ≤ sizeLine) : Fn prog w h₀ n (.builtin "str.split") [.str x, .str y] (.lst ((Txt.split x y).map .str)) := fun A s av vs Q E rm k0 ha r q => by
  obtain ⟨v, _, rfl, ⟨t, rfl⟩, v', _, rfl, ⟨u, rfl⟩, rfl⟩ := r
  refine call_meets F.slot_str_split (typeIs_str _ _ _) F.entry_str_split (F.args_str_split_2 _ _) (meets_str_split_sep x y t u h1 hy hf hx hn) ?_
  have e : Txt.split x y = partsBetween x (occurrences x y 0 x.length (x.length + 1)) y.length := (if_neg (ne_true_of_eq_false h1)).trans (if_neg (ne_true_of_eq_false hf))
  rw [e] at q
  refine q _ _ _ (Kp.push _ _) ⟨_, _, 0, rfl, ha.new, Heap.get?_push_size _ rfl, ?_⟩
  rw [strsFrom_eq]
  have := strs_repL (h := s.heap.push { cls := .type "list", data := .seq (strValues (numbered s.toks (partsBetween x (occurrences x y 0 x.length (x.length + 1)) y.length))).toArray }) (av := av) (numbered s.toks (partsBetween x (occurrences x y 0 x.length (x.length + 1)) y.length))
  rw [numbered_texts] at this
  exact this
theorem fn_index {xs : List Str} {x : Str} {j : Nat} (hj : xs[j]? = some x) (hno : ∀ m, m < j → xs[m]? ≠ some x) (hl : xs.length ≤ 1000) : Fn prog w h₀ n (.builtin "list.index") [.lst (xs.map .str), .str x] (.int j) := fun A s av vs Q E rm k0 ha r q => by
  obtain ⟨v, _, rfl, ⟨a, us, m, rfl, na, ea, ra⟩, v', _, rfl, ⟨t, rfl⟩, rfl⟩ := r
  obtain ⟨l, rfl, e2⟩ := repL_strs ra
  have hlen : (strValues l).length = xs.length := by rw [← e2]; simp [strValues]
  have hjl : j < xs.length := by
    rcases Nat.lt_or_ge j xs.length with h | h
    · exact h
    · rw [List.getElem?_eq_none h] at hj; cases hj
  have hat : ∀ i (hi : i < (strValues l).toArray.size), ∃ u, (strValues l).toArray[i] = .str (xs[i]'(by simpa [hlen] using hi)) u := fun i hi => by
    subst e2
    simp [strValues]
  refine call_meets F.slot_list_index ⟨_, ea, rfl⟩ F.entry_list_index (F.args_list_index_2 _ _)
    (MeetsSeq.list_index a (strValues l).toArray m (.str x t) (fun v => match v with | .str y _ => y.cps.toList == x.cps.toList | _ => false) (fun y hy => ?_) j (by simpa [hlen] using hjl) (by omega) ?_ ?_) ⟨ea, q _ _ _ (Kp.refl _) ⟨_, rfl⟩⟩
  · obtain ⟨i, hi, rfl⟩ := Array.mem_iff_getElem.mp hy
    obtain ⟨u, e⟩ := hat i hi
    rw [e]; exact PySem.SeqRoads2.EqGives.str _ _ _ _
  · obtain ⟨u, e⟩ := hat j (by simpa [hlen] using hjl)
    rw [e]
    have : xs[j] = x := by rw [List.getElem?_eq_getElem hjl] at hj; exact Option.some.inj hj
    simp [this]
  · intro i hi hij
    obtain ⟨u, e⟩ := hat i hi
    rw [e]
    have hil : i < xs.length := by simpa [hlen] using hi
    have : xs[i] ≠ x := fun h => hno i hij (by rw [List.getElem?_eq_getElem hil, h])
    show (xs[i].cps.toList == x.cps.toList) = false
    rw [beq_eq_false_iff_ne]
    intro h
    apply this
    cases hxi : xs[i] with | mk a => cases x with | mk b => rw [hxi] at h; simp at h; rw [h]

/-- methods of built-in types -/
theorem ev_meth0 {o : Expr} {name : Str} {apos pos : Pos} {a d : D} {T id : String} (pa : PlainAttrs T) (slot : Slot T name id) (ty : typeOf (.builtin id) = pure (.type "method_descriptor"))
    (hT : ∀ (s : Shared) av v, Rep s.heap av a v → s.TypeIs v T ∧ ∀ b, v = .ref b → ∃ ob, s.heap.get? b = some ob ∧ ob.dict = none)
    (ho : Ev prog w h₀ n sc σ o a) (hc : Fn prog w h₀ n (.builtin id) [a] d) (hline : (apos.endLine == pos.line) = true := by rfl)
    (hb : ∀ env, attributeBase o name env (eval o env) = eval o env := by intro _; rfl) : Ev prog w h₀ n sc σ (.Call (.Attribute o name apos) [] [] pos) d :=
  fun env he A s av Q E rm k0 ha sees q => Call_method0 (hb env) hline (ho env he A s av _ _ rm k0 ha sees fun v h1 t1 k1 r1 => by
    obtain ⟨h2, h3⟩ := hT { s with heap := h1, toks := t1 } av v r1
    exact ⟨T, id, pa, slot, ty, h2, h3, callWith_builtin rfl (PyProof.Rows.evalArgs_none (hc A _ av [v] _ _ rm (k0.trans k1) (ha.keeps k1) (RepL.one r1) fun v' h2 t2 k2 r2 => q v' h2 t2 (k1.trans k2) r2))⟩)
theorem ev_meth1 {o e : Expr} {name : Str} {apos pos : Pos} {a b d : D} {T id : String} (pa : PlainAttrs T) (slot : Slot T name id) (ty : typeOf (.builtin id) = pure (.type "method_descriptor"))
    (hT : ∀ (s : Shared) av v, Rep s.heap av a v → s.TypeIs v T ∧ ∀ b, v = .ref b → ∃ ob, s.heap.get? b = some ob ∧ ob.dict = none)
    (ho : Ev prog w h₀ n sc σ o a) (he' : Ev prog w h₀ n sc σ e b) (hc : Fn prog w h₀ n (.builtin id) [a, b] d) (hline : (apos.endLine == pos.line) = true := by rfl)
    (hs : ∀ env, starEach [e] env = [(false, eval e env)] := by intro _; rfl)
    (hb : ∀ env, attributeBase o name env (eval o env) = eval o env := by intro _; rfl) : Ev prog w h₀ n sc σ (.Call (.Attribute o name apos) [e] [] pos) d :=
  fun env he A s av Q E rm k0 ha sees q => Call_method1 (hb env) (hs env) hline (ho env he A s av _ _ rm k0 ha sees fun v h1 t1 k1 r1 => by
    obtain ⟨h2, h3⟩ := hT { s with heap := h1, toks := t1 } av v r1
    refine ⟨T, id, pa, slot, ty, h2, h3, callWith_builtin rfl (evalArgs_plain (spliced_cons (he' env he A _ av _ _ rm (k0.trans k1) (ha.keeps k1) (sees.keeps k1) fun u h4 t4 k4 r4 => spliced_nil ?_)))⟩
    exact hc A _ av [v, u] _ _ rm ((k0.trans k1).trans k4) ((ha.keeps k1).keeps k4) ⟨v, _, rfl, r1.mono (k4.seq av), RepL.one r4⟩ fun v' h5 t5 k5 r5 => q v' h5 t5 ((k1.trans k4).trans k5) r5)
theorem tyStr {x : Str} : ∀ (s : Shared) (av : Addr → Prop) v, Rep s.heap av (.str x) v → s.TypeIs v "str" ∧ ∀ b, v = .ref b → ∃ ob, s.heap.get? b = some ob ∧ ob.dict = none := fun s av v r => by
  obtain ⟨t, rfl⟩ := r
  exact ⟨typeIs_str _ _ _, fun _ e => nomatch e⟩
theorem tyLst {xs : List D} : ∀ (s : Shared) (av : Addr → Prop) v, Rep s.heap av (.lst xs) v → s.TypeIs v "list" ∧ ∀ b, v = .ref b → ∃ ob, s.heap.get? b = some ob ∧ ob.dict = none := fun s av v r => by
  obtain ⟨a, us, m, rfl, na, ea, ra⟩ := r
  exact ⟨⟨_, ea, rfl⟩, fun b e => by cases e; exact ⟨_, ea, rfl⟩⟩

theorem ev_lower {o : Expr} {apos pos : Pos} {x : Str} (ho : Ev prog w h₀ n sc σ o (.str x)) (hf : tooLong (Txt.lower x).length = false) (hline : (apos.endLine == pos.line) = true := by rfl)
    (hb : ∀ env, attributeBase o "lower" env (eval o env) = eval o env := by intro _; rfl) : Ev prog w h₀ n sc σ (.Call (.Attribute o "lower" apos) [] [] pos) (.str (Txt.lower x)) :=
  ev_meth0 F.plainAttrs_str F.slot_str_lower F.type_str_lower tyStr ho (fn_lower hf) hline hb
theorem ev_upper {o : Expr} {apos pos : Pos} {x : Str} (ho : Ev prog w h₀ n sc σ o (.str x)) (hf : tooLong (Txt.upper x).length = false) (hline : (apos.endLine == pos.line) = true := by rfl)
    (hb : ∀ env, attributeBase o "upper" env (eval o env) = eval o env := by intro _; rfl) : Ev prog w h₀ n sc σ (.Call (.Attribute o "upper" apos) [] [] pos) (.str (Txt.upper x)) :=
  ev_meth0 F.plainAttrs_str F.slot_str_upper F.type_str_upper tyStr ho (fn_upper hf) hline hb
theorem ev_startswith {o e : Expr} {apos pos : Pos} {x y : Str} (ho : Ev prog w h₀ n sc σ o (.str x)) (he : Ev prog w h₀ n sc σ e (.str y)) (hline : (apos.endLine == pos.line) = true := by rfl)
    (hs : ∀ env, starEach [e] env = [(false, eval e env)] := by intro _; rfl) (hb : ∀ env, attributeBase o "startswith" env (eval o env) = eval o env := by intro _; rfl) : Ev prog w h₀ n sc σ (.Call (.Attribute o "startswith" apos) [e] [] pos) (.bool (Txt.startswith x y)) :=
  ev_meth1 F.plainAttrs_str F.slot_str_startswith F.type_str_startswith tyStr ho he fn_startswith hline hs hb
theorem ev_endswith {o e : Expr} {apos pos : Pos} {x y : Str} (ho : Ev prog w h₀ n sc σ o (.str x)) (he : Ev prog w h₀ n sc σ e (.str y)) (hline : (apos.endLine == pos.line) = true := by rfl)
    (hs : ∀ env, starEach [e] env = [(false, eval e env)] := by intro _; rfl) (hb : ∀ env, attributeBase o "endswith" env (eval o env) = eval o env := by intro _; rfl) : Ev prog w h₀ n sc σ (.Call (.Attribute o "endswith" apos) [e] [] pos) (.bool (Txt.endswith x y)) :=
  ev_meth1 F.plainAttrs_str F.slot_str_endswith F.type_str_endswith tyStr ho he fn_endswith hline hs hb
theorem ev_find {o e : Expr} {apos pos : Pos} {x y : Str} (ho : Ev prog w h₀ n sc σ o (.str x)) (he : Ev prog w h₀ n sc σ e (.str y)) (hline : (apos.endLine == pos.line) = true := by rfl)
    (hs : ∀ env, starEach [e] env = [(false, eval e env)] := by intro _; rfl) (hb : ∀ env, attributeBase o "find" env (eval o env) = eval o env := by intro _; rfl) : Ev prog w h₀ n sc σ (.Call (.Attribute o "find" apos) [e] [] pos) (.int (Txt.find x y)) :=
  ev_meth1 F.plainAttrs_str F.slot_str_find F.type_str_find tyStr ho he fn_find hline hs hb
theorem ev_join {o e : Expr} {apos pos : Pos} {x : Str} {xs : List Str} (ho : Ev prog w h₀ n sc σ o (.str x)) (he : Ev prog w h₀ n sc σ e (.lst (xs.map .str))) (hok : JoinOk x xs = true) (hline : (apos.endLine == pos.line) = true := by rfl)
    (hs : ∀ env, starEach [e] env = [(false, eval e env)] := by intro _; rfl) (hb : ∀ env, attributeBase o "join" env (eval o env) = eval o env := by intro _; rfl) : Ev prog w h₀ n sc σ (.Call (.Attribute o "join" apos) [e] [] pos) (.str (Txt.join x xs)) :=
  ev_meth1 F.plainAttrs_str F.slot_str_join F.type_str_join tyStr ho he (fn_join hok) hline hs hb
theorem ev_index {o e : Expr} {apos pos : Pos} {xs : List Str} {x : Str} {j : Nat} (ho : Ev prog w h₀ n sc σ o (.lst (xs.map .str))) (he : Ev prog w h₀ n sc σ e (.str x)) (hj : xs[j]? = some x) (hno : ∀ m, m < j → xs[m]? ≠ some x) (hl : xs.length ≤ 1000)
    (hline : (apos.endLine == pos.line) = true := by rfl)
    (hs : ∀ env, starEach [e] env = [(false, eval e env)] := by intro _; rfl) (hb : ∀ env, attributeBase o "index" env (eval o env) = eval o env := by intro _; rfl) : Ev prog w h₀ n sc σ (.Call (.Attribute o "index" apos) [e] [] pos) (.int j) :=
  ev_meth1 F.plainAttrs_list F.slot_list_index F.type_list_index tyLst ho he (fn_index hj hno hl) hline hs hb
end
end Mine
end

section
open PySem PySem.W PyProof.Rows PySem.Calls PySem.Spec
set_option Elab.async false
set_option linter.unusedVariables false
namespace Mine

/-- all is kept but what stands at M -/
def KpM (M : Addr → Prop) (h h' : Heap) : Prop := ∀ b o, ¬ M b → h.get? b = some o → h'.get? b = some o
theorem KpM.refl (M : Addr → Prop) (h : Heap) : KpM M h h := fun _ _ _ e => e
theorem KpM.trans {M : Addr → Prop} {a b c : Heap} (x : KpM M a b) (y : KpM M b c) : KpM M a c := fun q o hq e => y q o hq (x q o hq e)
theorem Kp.m {h h' : Heap} (k : Kp h h') (M : Addr → Prop) : KpM M h h' := fun b o _ e => k b o e
theorem KpM.weaken {M N : Addr → Prop} {a b : Heap} (x : KpM M a b) (hm : ∀ b, M b → N b) : KpM N a b := fun q o hq e => x q o (fun hM => hq (hm _ hM)) e
/-- what stands at M is no list and no tuple -/
def NoSeq (M : Addr → Prop) (h : Heap) : Prop := ∀ a o, M a → h.get? a = some o → ¬ isSeq o
theorem KpM.seq {M : Addr → Prop} {h h' : Heap} (k : KpM M h h') (hn : NoSeq M h) (av : Addr → Prop) : KeepsSeq av av h h' := fun a o na hs e => ⟨k a o (fun hM => hn a o hM e hs) e, na⟩
theorem KpM.av {M : Addr → Prop} {h h' : Heap} (k : KpM M h h') (hn : NoSeq M h) {av : Addr → Prop} (x : AvIn av h) : AvIn av h' := fun a ha => let ⟨o, e, q⟩ := x a ha; ⟨o, k _ _ (fun hM => hn a o hM e q) e, q⟩
theorem SameBut.kpm {a : Addr} {h h' : Heap} (x : Heap.SameBut a h h') : KpM (fun b => b = a) h h' := fun b o hb e => x.extBut b o hb e
theorem ns_noSeq {h : Heap} {a : Addr} {m : Str → Option Value} (x : h.Ns a m) : ∀ o, h.get? a = some o → ¬ isSeq o := fun o e => by
  obtain ⟨o', es, ep, e', hd, _⟩ := x
  rw [e] at e'; cases e'
  rintro ⟨xs, n, q⟩
  rw [hd] at q; cases q
theorem cell_noSeq {h : Heap} {a : Addr} {v : Option Value} (x : h.IsCell a v) : ∀ o, h.get? a = some o → ¬ isSeq o := fun o e => by
  obtain ⟨o', e', hd⟩ := x
  rw [e] at e'; cases e'
  rintro ⟨xs, n, q⟩
  rw [hd] at q; cases q

def Binds (h : Heap) (av : Addr → Prop) (env : Env) (m : Str → Option Value) (bs : Sto) : Prop := ∀ x d, bs.lookup x = some d → env.kindOf x = some .local ∧ ∃ v, m x = some v ∧ Rep h av d v

section
variable (prog : Program) (w : World) (h₀ : Heap)
/-- a target takes a datum -/
def Asg (sc : Scope) (target : Expr) (d : D) (bs : Sto) : Prop :=
  ∀ (env : Env), EnvFor sc env → ∀ (A : Around) (s : Shared) (av : Addr → Prop) (v : Value) (m : Str → Option Value) (Q : Unit → Shared → Prop) (E : Value → Shared → Prop),
    Room 0 A → AvIn av s.heap → Rep s.heap av d v → s.heap.Ns env.locals m →
    (∀ h' tk m', h'.Ns env.locals m' → KpM (fun b => b = env.locals) s.heap h' → Binds h' av env m' bs → (∀ y, bs.lookup y = none → m' y = m y) → Q () { s with heap := h', toks := tk }) →
    wpAny (model prog w) A (assign target env v) Q E s

/-- the iterator at I hands out the items -/
structure Iter (A : Around) (av : Addr → Prop) (I : Addr) (items : List D) (h : Heap) (P : Nat → Value → Prop) (St : Nat → Heap → Prop) (fp : List Addr) : Prop where
  walk : Walks prog w A I fp [I] items.length P St
  start : St 0 h
  fits : ∀ b ∈ fp, b < h.objs.size
  rep : ∀ i v d, P i v → items[i]? = some d → Rep h av d v
  seqs : ∀ b ∈ fp, b = I ∨ ∃ o, h.get? b = some o ∧ isSeq o
  obj : ∀ i h', St i h' → ∃ o, h'.get? I = some o ∧ ¬ isSeq o ∧ o.cls ∈ [Value.type "list_iterator", Value.type "tuple_iterator", Value.type "range_iterator"]

def Src (n : Nat) (sc : Scope) (σ : Sto) (iter : Expr) (items : List D) : Prop :=
  ∀ (env : Env), EnvFor sc env → ∀ (A : Around) (s : Shared) (av : Addr → Prop) (Q : Value → Shared → Prop) (E : Value → Shared → Prop),
    Room n A → Kp h₀ s.heap → AvIn av s.heap → Sees s.heap av env σ →
    (∀ I h' tk P St fp, Kp s.heap h' → s.heap.get? I = none → Iter prog w A av I items h' P St fp → Q (.ref I) { s with heap := h', toks := tk }) →
    wpAny (model prog w) A (eval iter env) (fun xv s₁ => wpAny (model prog w) A (pyIter xv) Q E s₁) E s
end

section
variable {prog : Program} {w : World} {K : Frag} {h₀ : Heap} {n : Nat} {sc : Scope} {σ : Sto}

theorem fnScope {sc : Scope} {env : Env} (he : EnvFor sc env) (hk : sc.kind = .function) : (env.scope.kind == .class || (env.scope.kind == .module && env.locals != env.globals)) = false := by
  rw [he.scope, hk]; rfl

theorem asg_name {x : Str} {p : Pos} {d : D} (hx : sc.names.lookup x = some .local) (hk : sc.kind = .function := by rfl) : Asg prog w sc (.Name x p) d [(x, d)] :=
  fun env he A s av v m Q E rm ha r hn q => wpAny_assign_Name (wpAny_storeName_local (by rw [he.kind]; exact hx) hn (fun h' hn' hs' => by
    have kp := SameBut.kpm hs'
    have nsq : NoSeq (fun b => b = env.locals) s.heap := fun a o e => by subst e; exact ns_noSeq hn o
    refine q h' _ _ hn' kp (fun y e hy => ?_) fun y hy => ?_
    · rw [List.lookup_cons] at hy
      cases hb : y == x with
      | true =>
        rw [hb] at hy; cases hy
        have e' := beq_iff_eq.mp hb; subst e'
        exact ⟨by rw [he.kind]; exact hx, v, by simp, r.mono (kp.seq nsq av)⟩
      | false => rw [hb] at hy; simp at hy
    · rw [List.lookup_cons] at hy
      cases hb : y == x with
      | true => rw [hb] at hy; cases hy
      | false => simp [beq_eq_false_iff_ne.mp hb]) (fnScope he hk))

theorem asg_row {env : Env} (he : EnvFor sc env) (hk : sc.kind = .function) {A : Around} {av : Addr → Prop} {E : Value → Shared → Prop} (rm : Room 0 A) :
    ∀ (xs : List (Str × Pos)) (ds : List D) (vs : List Value) (bs : Sto) (s : Shared) (m : Str → Option Value) (Q : Unit → Shared → Prop), (∀ p ∈ xs, sc.names.lookup p.1 = some .local) → xs.length = ds.length → AvIn av s.heap → RepL s.heap av ds vs → s.heap.Ns env.locals m →
      Binds s.heap av env m bs →
      (∀ h' tk m', h'.Ns env.locals m' → KpM (fun b => b = env.locals) s.heap h' → Binds h' av env m' (((xs.map (·.1)).zip ds).reverse ++ bs) → (∀ y, (((xs.map (·.1)).zip ds).reverse ++ bs).lookup y = none → m' y = m y) → Q () { s with heap := h', toks := tk }) →
      wpAny (model prog w) A (assignInOrder (xs.map fun p => assign (.Name p.1 p.2) env) vs) Q E s
  | [], [], _, bs, s, m, Q, _, _, ha, r, hn, hb, q => by
    rw [show _ = [] from r]
    exact PyProof.Rows.assignInOrder_nil (q s.heap s.toks m hn (KpM.refl _ _) hb fun _ _ => rfl)
  | (x, p) :: xs, d :: ds, _, bs, s, m, Q, hx, hlen, ha, r, hn, hb, q => by
    obtain ⟨v, vs, rfl, r1, r2⟩ := r
    have nsq : NoSeq (fun b => b = env.locals) s.heap := fun a o e => by subst e; exact ns_noSeq hn o
    refine PyProof.Rows.assignInOrder_cons (asg_name (hx _ List.mem_cons_self) hk env he A s av v m _ _ rm ha r1 hn fun h1 t1 m1 hn1 k1 b1 o1 => ?_)
    refine asg_row he hk rm xs ds vs ((x, d) :: bs) _ m1 Q (fun p hp => hx p (List.mem_cons_of_mem _ hp)) (by simpa using hlen) (k1.av nsq ha) (r2.mono (k1.seq nsq av)) hn1 ?_ fun h2 t2 m2 hn2 k2 b2 o2 => ?_
    · intro y e hy
      rw [List.lookup_cons] at hy
      cases hbq : y == x with
      | true => exact b1 y e (by rw [List.lookup_cons, hbq]; rw [hbq] at hy; exact hy)
      | false =>
        rw [hbq] at hy
        obtain ⟨k', v', e', r'⟩ := hb y e hy
        exact ⟨k', v', by rw [o1 y (by rw [List.lookup_cons, hbq]; rfl)]; exact e', r'.mono (k1.seq nsq av)⟩
    · have eq : (((((x, p) :: xs).map (·.1)).zip (d :: ds)).reverse ++ bs) = ((xs.map (·.1)).zip ds).reverse ++ (x, d) :: bs := by simp
      refine q h2 t2 m2 hn2 (k1.trans k2) (by rw [eq]; exact b2) fun y hy => ?_
      rw [eq] at hy
      rw [o2 y hy]
      refine o1 y ?_
      rw [List.lookup_cons]
      cases hbq : y == x with
      | true =>
        rw [List.lookup_append, List.lookup_cons, hbq] at hy
        cases hq : ((xs.map (·.1)).zip ds).reverse.lookup y <;> rw [hq] at hy <;> simp at hy
      | false => rfl
  | _ :: _, [], _, _, _, _, _, _, h, _, _, _, _, _ => by simp at h
  | [], _ :: _, _, _, _, _, _, _, h, _, _, _, _, _ => by simp at h

theorem asg_tup {elts : List Expr} {k : Nat} {p : Pos} {ds : List D} (xs : List (Str × Pos)) (hx : ∀ q ∈ xs, sc.names.lookup q.1 = some .local) (hlen : xs.length = ds.length)
    (hel : elts = xs.map fun q => .Name q.1 q.2) (ha' : ∀ env, assignEach elts env = xs.map fun q => (false, assign (.Name q.1 q.2) env)) (hk : sc.kind = .function := by rfl) :
    Asg prog w sc (.Tuple elts k p) (.tup ds) ((xs.map (·.1)).zip ds).reverse := fun env he A s av v m Q E rm ha r hn q => by
  obtain ⟨a, vs, c, rfl, na, ea, ra⟩ := r
  have hl := ra.length
  have nsq : NoSeq (fun b => b = env.locals) s.heap := fun a o e => by subst e; exact ns_noSeq hn o
  refine assign_Tuple_tuple rm.1 (t := a) (items := vs.toArray) ⟨_, ea, rfl, _, rfl⟩ (by rw [ha' env]; simp [hlen, hl]) (by rw [ha' env]; rw [List.findIdx?_eq_none_iff]; simp) fun h1 hx1 => ?_
  have k1 : Kp s.heap h1 := fun b o e => hx1 b o (Nat.ne_of_lt (Heap.lt_size e)) e
  rw [ha' env, List.map_map]
  show wpAny _ A (assignInOrder (xs.map fun q => assign (.Name q.1 q.2) env) vs) _ _ _
  refine asg_row he hk rm xs ds vs [] _ m Q hx hlen (ha.keeps k1) (ra.mono (k1.seq av)) (hn.keeps k1) (fun _ _ h => by simp at h) fun h2 t2 m2 hn2 k2 b2 o2 => ?_
  rw [List.append_nil] at b2 o2
  exact q h2 t2 m2 hn2 ((k1.m _).trans k2) b2 o2
theorem asg_lst {elts : List Expr} {k : Nat} {p : Pos} {ds : List D} (xs : List (Str × Pos)) (hx : ∀ q ∈ xs, sc.names.lookup q.1 = some .local) (hlen : xs.length = ds.length)
    (hel : elts = xs.map fun q => .Name q.1 q.2) (ha' : ∀ env, assignEach elts env = xs.map fun q => (false, assign (.Name q.1 q.2) env)) (hk : sc.kind = .function := by rfl) :
    Asg prog w sc (.Tuple elts k p) (.lst ds) ((xs.map (·.1)).zip ds).reverse := fun env he A s av v m Q E rm ha r hn q => by
  obtain ⟨a, vs, c, rfl, na, ea, ra⟩ := r
  have hl := ra.length
  rw [arm_assign_Tuple]
  refine wpAny_bind (wpAny_standAt ?_)
  unfold unpack
  have hn1 : (assignEach elts env).length = vs.toArray.size := by rw [ha' env]; simp [hlen, hl]
  have hn2 : (assignEach elts env).findIdx? (·.1) = none := by rw [ha' env]; rw [List.findIdx?_eq_none_iff]; simp
  rw [hn1, hn2]
  refine wpAny_bind (wpAny_holding (kun_itemsOf rm.1 (isL ea) fun h1 hx1 => ?_))
  have k1 : Kp s.heap h1 := fun b o e => hx1 b o (Nat.ne_of_lt (Heap.lt_size e)) e
  rw [ha' env, List.map_map]
  show wpAny _ A (assignInOrder (xs.map fun q => assign (.Name q.1 q.2) env) vs) _ _ _
  refine asg_row he hk rm xs ds vs [] _ m Q hx hlen (ha.keeps k1) (ra.mono (k1.seq av)) (hn.keeps k1) (fun _ _ h => by simp at h) fun h2 t2 m2 hn2 k2 b2 o2 => ?_
  rw [List.append_nil] at b2 o2
  exact q h2 t2 m2 hn2 ((k1.m _).trans k2) b2 o2

/-- sources -/
theorem Kp.fresh {h h' : Heap} {a : Addr} (k : Kp h h') (e : h'.get? a = none) : h.get? a = none := by
  cases q : h.get? a with
  | none => rfl
  | some o => rw [k a o q] at e; cases e
theorem src_lst {e : Expr} {ds : List D} (h : Ev prog w h₀ n sc σ e (.lst ds)) : Src prog w h₀ n sc σ e ds := fun env he A s av Q E rm k0 ha sees q =>
  h env he A s av _ _ rm k0 ha sees fun v h1 t1 k1 r1 => by
    obtain ⟨a, vs, m, rfl, na, ea, ra⟩ := r1
    have hl := isL ea
    have hlt : a < h1.objs.size := Heap.lt_size ea
    refine wpAny_pyIter_list hl ?_
    have up := Kp.push h1 { cls := .type "list_iterator", data := .fields #[.ref a, .int 0 0] }
    refine q _ _ _ (fun i v => vs.toArray[i]? = some v) (fun i h => h.IsListIter h1.objs.size a i ∧ h.IsList a vs.toArray) [h1.objs.size, a] (k1.trans up) (k1.fresh (Heap.get?_none_of_le (Nat.le_refl _))) ⟨?_, ⟨⟨_, Heap.get?_push_size _ rfl, rfl, rfl⟩, hl.push _⟩, fun b hb => ?_, fun i v d e1 e2 => ?_, fun b hb => ?_, fun i h' st => ?_⟩
    · have := Walks.list (prog := prog) (w := w) (A := A) rm.1 h1.objs.size a (Nat.ne_of_lt hlt) vs.toArray
      have e : vs.toArray.size = ds.length := by rw [List.size_toArray, ra.length]
      rw [e] at this
      exact this
    · rw [Heap.size_push]
      rcases List.mem_cons.mp hb with rfl | hb
      · exact Nat.lt_succ_self _
      · rw [List.mem_singleton.mp hb]; exact Nat.lt_succ_of_lt hlt
    · obtain ⟨v', e3, r3⟩ := (ra.mono (up.seq av)).get e2
      have : v = v' := by simpa [e3] using e1.symm
      rw [this]; exact r3
    · rcases List.mem_cons.mp hb with rfl | hb
      · exact .inl rfl
      · rw [List.mem_singleton.mp hb]; exact .inr ⟨_, up _ _ ea, _, _, rfl⟩
    · obtain ⟨o, e3, e4, e5⟩ := st.1
      exact ⟨o, e3, (fun ⟨_, _, x⟩ => by rw [e5] at x; cases x), by rw [e4]; simp⟩
end
end Mine
end

section
open PySem PySem.W PyProof.Rows PySem.Calls PySem.Spec
set_option Elab.async false
set_option linter.unusedVariables false
namespace Mine

section
variable {prog : Program} {w : World} {K : Frag} {h₀ : Heap} {n : Nat} {sc : Scope} {σ : Sto}

theorem src_tup {e : Expr} {ds : List D} (h : Ev prog w h₀ n sc σ e (.tup ds)) : Src prog w h₀ n sc σ e ds := fun env he A s av Q E rm k0 ha sees q =>
  h env he A s av _ _ rm k0 ha sees fun v h1 t1 k1 r1 => by
    obtain ⟨a, vs, m, rfl, na, ea, ra⟩ := r1
    have hl := isT ea
    have hlt : a < h1.objs.size := Heap.lt_size ea
    refine wpAny_pyIter_tuple hl ?_
    have up := Kp.push h1 { cls := .type "tuple_iterator", data := .fields #[.ref a, .int 0 0] }
    refine q _ _ _ (fun i v => vs.toArray[i]? = some v) (fun i h => h.IsTupleIter h1.objs.size a i ∧ h.IsTuple a vs.toArray) [h1.objs.size, a] (k1.trans up) (k1.fresh (Heap.get?_none_of_le (Nat.le_refl _)))
      ⟨?_, ⟨⟨_, Heap.get?_push_size _ rfl, rfl, rfl⟩, hl.push _⟩, fun b hb => ?_, fun i v d e1 e2 => ?_, fun b hb => ?_, fun i h' st => ?_⟩
    · have := Walks.tuple (prog := prog) (w := w) (A := A) rm.1 h1.objs.size a (Nat.ne_of_lt hlt) vs.toArray
      have e : vs.toArray.size = ds.length := by rw [List.size_toArray, ra.length]
      rw [e] at this
      exact this
    · rw [Heap.size_push]
      rcases List.mem_cons.mp hb with rfl | hb
      · exact Nat.lt_succ_self _
      · rw [List.mem_singleton.mp hb]; exact Nat.lt_succ_of_lt hlt
    · obtain ⟨v', e3, r3⟩ := (ra.mono (up.seq av)).get e2
      have : v = v' := by simpa [e3] using e1.symm
      rw [this]; exact r3
    · rcases List.mem_cons.mp hb with rfl | hb
      · exact .inl rfl
      · rw [List.mem_singleton.mp hb]; exact .inr ⟨_, up _ _ ea, _, _, rfl⟩
    · obtain ⟨o, e3, e4, e5⟩ := st.1
      exact ⟨o, e3, (fun ⟨_, _, x⟩ => by rw [e5] at x; cases x), by rw [e4]; simp⟩

/-- the ints from a, k of them -/
def intsFrom (a : Int) (k : Nat) : List D := (List.range k).map fun (i : Nat) => .int (a + (i : Int))
theorem intsFrom_get {a : Int} {k i : Nat} {d : D} (h : (intsFrom a k)[i]? = some d) : d = .int (a + (i : Int)) := by
  unfold intsFrom at h
  rw [List.getElem?_map] at h
  cases e : (List.range k)[i]? with
  | none => rw [e] at h; cases h
  | some j =>
    rw [e] at h
    have hj : j = i := by
      have := List.getElem?_eq_some_iff.mp e
      obtain ⟨_, q⟩ := this
      simpa using q.symm
    subst hj
    cases h; rfl
theorem intsFrom_length (a : Int) (k : Nat) : (intsFrom a k).length = k := by simp [intsFrom]

theorem range_src {A : Around} {s : Shared} {av : Addr → Prop} {Q : Value → Shared → Prop} {E : Value → Shared → Prop} {r : Addr} {a b : Int} {t u v : Tok} {k : Nat} {hb : Heap} (hh : A.handled = none) (hr : IsRange s.heap r a b 1 t u v) (k1 : Kp hb s.heap)
    (h1 : -(2 ^ 62) ≤ a) (h2 : b < 2 ^ 62) (hk : a + (k : Int) = b)
    (q : ∀ I h' tk P St fp, Kp hb h' → hb.get? I = none → Iter prog w A av I (intsFrom a k) h' P St fp → Q (.ref I) { s with heap := h', toks := tk }) : wpAny (model prog w) A (pyIter (.ref r)) Q E s := by
  have hsz : Builtin.Range.rangeSize a b 1 = (k : Int) := by rw [rangeSize_one]; split <;> omega
  refine wpAny_pyIter_range hr (small_one (by omega) (by omega) (by omega) (by omega)) ?_
  have up := Kp.push s.heap { cls := .type "range_iterator", data := .fields #[.int a 0, .int (Builtin.Range.rangeSize a b 1) 0, .int 1 0] }
  have W := Walks.range (prog := prog) (w := w) (A := A) hh s.heap.objs.size a 1 k
  rw [← intsFrom_length a k] at W
  refine q _ _ s.toks _ _ [s.heap.objs.size] (k1.trans (fun b o e => Heap.get?_push_of_some _ e)) (k1.fresh (Heap.get?_none_of_le (Nat.le_refl _))) ⟨W, ?_, fun b hb' => ?_, fun i v d e1 e2 => ?_, fun b hb' => .inl (List.mem_singleton.mp hb'), fun i h' st => ?_⟩
  · rw [intsFrom_length]
    show IsRangeIter _ _ _ _ _
    rw [hsz]
    simpa using Heap.get?_push_size _ rfl
  · rw [List.mem_singleton.mp hb', Heap.size_push]; exact Nat.lt_succ_self _
  · obtain ⟨t', rfl⟩ := e1
    rw [intsFrom_get e2, Int.mul_one]
    exact ⟨t', rfl⟩
  · exact ⟨_, st, (fun ⟨_, _, x⟩ => by cases x), by simp⟩

theorem src_range1 (C : Cx K h₀) {e : Expr} {p pos : Pos} {k : Nat} (hx : sc.names.lookup (Str.ofString "range") = some .globalImplicit) (hv : nsIn K mainGlobals "range" = some none) (he' : Ev prog w h₀ n sc σ e (.int k)) (hk' : k ≤ 1000) (hk : sc.kind = .function := by rfl)
    (hs : ∀ env, starEach [e] env = (false, eval e env) :: starEach [] env := by intro _; rfl) :
    Src prog w h₀ n sc σ (.Call (.Name "range" p) [e] [] pos) (intsFrom 0 k) := fun env he A s av Q E rm k0 ha sees q =>
  Call_ (glob_boot C he k0 hk hx hv (v := .type "range") (by decide +kernel) (by decide +kernel) (by decide +kernel) (callWith_type1 (evL_cons he' evL_nil hs env he A s av pos _ _ rm k0 ha sees fun vs h1 t1 k1 r1 => by
    obtain ⟨v, _, rfl, ⟨t, rfl⟩, rfl⟩ := r1
    refine call_range_1 ?_
    exact range_src rm.1 (IsRange.new ..) (k1.trans (Kp.push _ _)) (by omega) (by omega) (by omega) fun I h' tk P St fp kp hf it => q I h' tk P St fp kp hf it) (hs env) rfl))
theorem src_range2 (C : Cx K h₀) {e₁ e₂ : Expr} {p pos : Pos} {a b : Int} {k : Nat} (hx : sc.names.lookup (Str.ofString "range") = some .globalImplicit) (hv : nsIn K mainGlobals "range" = some none) (he₁ : Ev prog w h₀ n sc σ e₁ (.int a)) (he₂ : Ev prog w h₀ n sc σ e₂ (.int b))
    (h1 : -(2 ^ 62) ≤ a) (h2 : b < 2 ^ 62) (hk' : a + (k : Int) = b) (hk : sc.kind = .function := by rfl)
    (hs : ∀ env, starEach [e₁, e₂] env = (false, eval e₁ env) :: starEach [e₂] env := by intro _; rfl) (hs₂ : ∀ env, starEach [e₂] env = (false, eval e₂ env) :: starEach [] env := by intro _; rfl) (hp : ∀ env, (backTo pos (starEach [e₂] env)).any (·.1) = false := by intro _; rfl) :
    Src prog w h₀ n sc σ (.Call (.Name "range" p) [e₁, e₂] [] pos) (intsFrom a k) := fun env he A s av Q E rm k0 ha sees q =>
  Call_ (glob_boot C he k0 hk hx hv (v := .type "range") (by decide +kernel) (by decide +kernel) (by decide +kernel) (callWith_type1 (evL_cons he₁ (evL_cons he₂ evL_nil hs₂) hs env he A s av pos _ _ rm k0 ha sees fun vs h1' t1 k1 r1 => by
    obtain ⟨v, _, rfl, ⟨t, rfl⟩, v', _, rfl, ⟨u, rfl⟩, rfl⟩ := r1
    refine call_range_2 ?_
    exact range_src rm.1 (IsRange.new ..) (k1.trans (Kp.push _ _)) h1 h2 hk' fun I h' tk P St fp kp hf it => q I h' tk P St fp kp hf it) (hs env) (hp env)))

theorem letGo_iter {A : Around} {E : Value → Shared → Prop} {target : Expr} {I : Addr} {v : Value} {Q' : Unit → Shared → Prop} {s' : Shared} {o : Obj} (ho : s'.heap.get? I = some o)
    (hc : o.cls ∈ [Value.type "list_iterator", Value.type "tuple_iterator", Value.type "range_iterator"]) (h : Q' () s') : wpAny (model prog w) A (letOwnedTupleGo target (.ref I) v) Q' E s' := by
  simp only [List.mem_cons, List.not_mem_nil, or_false] at hc
  unfold letOwnedTupleGo
  cases target <;> first
    | exact wpAny_pure h
    | (cases v <;> first
        | exact wpAny_pure h
        | (refine wpAny_bind (wpAny_load ho ?_)
           rcases hc with hc | hc | hc <;> rw [hc] <;> cases o.data <;> exact wpAny_pure h))

/-- one turn after another of a comprehension -/
theorem compLoop_any {A : Around} {R : Result → Shared → Prop} {s : Shared} {elt target iter : Expr} {ifs : List Expr} {scope : Scope} {pos : Pos} {it acc : Value} {env : Env} (I : Nat → Shared → Prop)
    (turn : ∀ n s, I n s → wpAny (model prog w) A (pyNext it) (fun r s₁ => match r with
      | none => R (.ok .next) s₁
      | some v => wpAny (model prog w) A (letOwnedTupleGo target it v) (fun _ s₁' => wpAny (model prog w) A (assign target env v) (fun _ s₂ =>
          wpAny (model prog w) A (forIn ifs true fun c r => if r = true then do let ok ← isTrue c env (eval c env); pure (ForInStep.yield ok) else pure (ForInStep.yield r)) (fun ok s₃ =>
            if ok = true then wpAny (model prog w) A (eval elt env) (fun x s₄ =>
              wpAny (model prog w) A (call (.builtin "list.append") [acc, x]) (fun _ s₅ => ∃ m, m < n ∧ I m s₅) (notedBy (model prog w) A env fun e s' => R (.error e) s') s₄) (notedBy (model prog w) A env fun e s' => R (.error e) s') s₃
            else ∃ m, m < n ∧ I m s₃) (notedBy (model prog w) A env fun e s' => R (.error e) s') s₂) (notedBy (model prog w) A env fun e s' => R (.error e) s') s₁') (notedBy (model prog w) A env fun e s' => R (.error e) s') s₁) (notedBy (model prog w) A env fun e s' => R (.error e) s') s)
    (n : Nat) (h : I n s) :
    codeAny (model prog w) A (.compLoop (.ListComp elt [⟨target, iter, ifs, 0⟩] scope pos) 0 it acc env) R s := by
  refine codeAny_loop rfl I (fun n s hI => ?_) n h
  show wpAny _ A ((compTurn (.ListComp elt [⟨target, iter, ifs, 0⟩] scope pos) 0 it acc env).onRaise (fun x => do noteFrame x env; theTreesLotGoes x)) _ _ s
  refine wpAny_noted ?_
  rw [compTurn_list]
  refine wpAny_bind (wpAny_standAt (wpAny_bind (wpAny_mono (turn n s hI) (fun r s₁ h₁ => ?_) fun _ _ h' => h')))
  cases r with
  | none => exact wpAny_pure h₁
  | some v =>
    refine wpAny_bind (wpAny_mono h₁ (fun _ s₁' h₁' => ?_) fun _ _ h' => h')
    refine wpAny_bind (wpAny_mono h₁' (fun _ s₂ h₂ => wpAny_bind (wpAny_mono h₂ (fun ok s₃ h₃ => ?_) fun _ _ h' => h')) fun _ _ h' => h')
    cases ok with
    | true =>
      simp only [if_true] at h₃ ⊢
      exact wpAny_bind (wpAny_bind (wpAny_mono h₃ (fun x s₄ h₄ => wpAny_bind (wpAny_mono h₄ (fun _ s₅ h₅ => wpAny_pure (wpAny_pure ⟨rfl, h₅⟩)) fun _ _ h' => h')) fun _ _ h' => h'))
    | false =>
      simp only [Bool.false_eq_true, if_false] at h₃ ⊢
      exact wpAny_pure ⟨rfl, h₃⟩
end
end Mine
end

section
open PySem PySem.W PyProof.Rows PySem.Calls PySem.Spec
set_option Elab.async false
set_option linter.unusedVariables false
namespace Mine

def relabelS (scope sc : Scope) : Scope := { scope with names := scope.names.map fun (n, k) => if (k == .free && sc.kind == .function && sc.names.lookup n == some .cell) then (n, .cell) else (n, k) }
theorem relabel_eq {scope sc : Scope} {env : Env} (he : EnvFor sc env) : relabel scope env = relabelS scope sc := by
  unfold relabel relabelS Env.kindOf
  rw [he.scope]

/-- the cells that a comprehension sees -/
def closOf (env : Env) : List (Str × NameKind) → List (Str × Addr) → List (Str × Addr)
  | [], acc => acc
  | (n, k) :: r, acc => if k == .free then (match env.cells.lookup n with | some c => closOf env r ((n, c) :: acc) | none => closOf env r acc) else closOf env r acc
theorem closureFor_eq {env : Env} {scope : Scope} (h : ∀ p ∈ scope.names, p.2 = .free → ∃ c, env.cells.lookup p.1 = some c) : closureFor scope env = pure (closOf env scope.names []) := by
  unfold closureFor
  have go : ∀ (names : List (Str × NameKind)) (acc : List (Str × Addr)), (∀ p ∈ names, p.2 = .free → ∃ c, env.cells.lookup p.1 = some c) →
      (forIn names acc fun x r => (match x with | (name, kind) => if (kind == NameKind.free) = true then do let y ← cellOf env name; pure (ForInStep.yield ((name, y) :: r)) else pure (ForInStep.yield r) : Sem (ForInStep (List (Str × Addr))))) = (pure (closOf env names acc) : Sem _) := by
    intro names
    induction names with
    | nil => intro acc _; rfl
    | cons p r ih =>
      intro acc hp
      obtain ⟨n, k⟩ := p
      rw [List.forIn_cons]
      unfold closOf
      cases hk : k == NameKind.free with
      | false =>
        simp only [hk, Bool.false_eq_true, if_false, pure_bind]
        exact ih acc fun p hp' => hp p (List.mem_cons_of_mem _ hp')
      | true =>
        obtain ⟨c, hc⟩ := hp (n, k) List.mem_cons_self (by simpa using hk)
        have e : cellOf env n = pure c := by unfold cellOf; rw [hc]
        simp only [hk, if_true, e, hc, pure_bind]
        exact ih _ fun p hp' => hp p (List.mem_cons_of_mem _ hp')
  have := go scope.names [] h
  simp only [] at this ⊢
  first
    | exact this
    | (rw [show (do let r ← forIn scope.names ([] : List (Str × Addr)) _; pure r : Sem (List (Str × Addr))) = _ from bind_pure _]; exact this)
    | simpa using this
theorem closOf_lookup {env : Env} {x : Str} {c : Addr} (hc : env.cells.lookup x = some c) : ∀ (names : List (Str × NameKind)) (acc : List (Str × Addr)), (acc.lookup x = some c ∨ ((x, NameKind.free) ∈ names ∧ acc.lookup x = none)) → (closOf env names acc).lookup x = some c
  | [], acc, h => h.elim id fun h => by cases h.1
  | (n, k) :: r, acc, h => by
    unfold closOf
    cases hk : k == NameKind.free with
    | false =>
      simp only [Bool.false_eq_true, if_false]
      refine closOf_lookup hc r acc (h.imp id fun h => ⟨?_, h.2⟩)
      rcases List.mem_cons.mp h.1 with e | e
      · cases e; simp at hk
      · exact e
    | true =>
      simp only [if_true]
      cases hn : env.cells.lookup n with
      | none =>
        simp only []
        refine closOf_lookup hc r acc (h.imp id fun h => ⟨?_, h.2⟩)
        rcases List.mem_cons.mp h.1 with e | e
        · cases e; rw [hc] at hn; cases hn
        · exact e
      | some c' =>
        simp only []
        refine closOf_lookup hc r _ ?_
        rw [List.lookup_cons]
        cases hx : x == n with
        | true =>
          have := beq_iff_eq.mp hx; subst this
          rw [hc] at hn; cases hn
          exact .inl rfl
        | false =>
          refine h.imp id fun h => ⟨?_, h.2⟩
          rcases List.mem_cons.mp h.1 with e | e
          · cases e; simp at hx
          · exact e

theorem lookup_mem {α : Type} {l : List (Str × α)} {x : Str} {a : α} (h : l.lookup x = some a) : (x, a) ∈ l := PySem.mem_of_lookup h
def capt (scope : Scope) (σ : Sto) : Sto := σ.filter fun p => scope.names.lookup p.1 == some .free
theorem capt_lookup {scope : Scope} : ∀ {σ : Sto} {x : Str} {d : D}, (capt scope σ).lookup x = some d → σ.lookup x = some d ∧ scope.names.lookup x = some .free
  | [], _, _, h => by simp [capt] at h
  | (y, e) :: r, x, d, h => by
    unfold capt at h
    rw [List.filter_cons] at h
    cases hy : (scope.names.lookup y == some NameKind.free) with
    | true =>
      simp only [hy, if_true] at h
      rw [List.lookup_cons] at h ⊢
      cases hx : x == y with
      | true =>
        rw [hx] at h
        have := beq_iff_eq.mp hx; subst this
        exact ⟨h, by simpa using hy⟩
      | false => rw [hx] at h; exact capt_lookup h
    | false =>
      simp only [hy, Bool.false_eq_true, if_false] at h
      obtain ⟨h1, h2⟩ := capt_lookup (scope := scope) h
      refine ⟨?_, h2⟩
      rw [List.lookup_cons]
      cases hx : x == y with
      | true => have := beq_iff_eq.mp hx; subst this; rw [h2] at hy; simp at hy
      | false => exact h1
theorem lookup_relabelS {scope sc : Scope} {x : Str} (h : scope.names.lookup x = some .free) : (relabelS scope sc).names.lookup x = some .cell ∨ (relabelS scope sc).names.lookup x = some .free := by
  have go : ∀ (names : List (Str × NameKind)) (f : Str × NameKind → Str × NameKind), (∀ p, (f p).1 = p.1 ∧ (p.2 = .free → (f p).2 = .cell ∨ (f p).2 = .free)) → names.lookup x = some .free →
      (names.map f).lookup x = some .cell ∨ (names.map f).lookup x = some .free := by
    intro names f hf
    induction names with
    | nil => intro h; cases h
    | cons p r ih =>
      intro h
      rw [List.map_cons]
      rw [List.lookup_cons] at h
      have e1 := (hf p).1
      have e2 : f p = ((f p).1, (f p).2) := rfl
      rw [e2, List.lookup_cons, e1]
      cases hx : x == p.1 with
      | true =>
        rw [hx] at h
        rcases (hf p).2 (by simpa using h) with q | q
        · left; simp only [q]
        · right; simp only [q]
      | false =>
        rw [hx] at h
        exact ih h
  refine go scope.names (fun (n, k) => if (k == .free && sc.kind == .function && sc.names.lookup n == some .cell) then (n, .cell) else (n, k)) (fun p => ?_) h
  obtain ⟨n, k⟩ := p
  dsimp only
  split
  · exact ⟨rfl, fun _ => .inl rfl⟩
  · exact ⟨rfl, fun q => .inr q⟩

section
variable {prog : Program} {w : World} {K : Frag} {h₀ : Heap} {n : Nat} {sc : Scope} {σ : Sto}

inductive Ifs (prog : Program) (w : World) (h₀ : Heap) (n : Nat) (sc : Scope) (σ : Sto) : List Expr → Bool → Prop
  | none : Ifs prog w h₀ n sc σ [] true
  | one {e : Expr} {b : Bool} : Tr prog w h₀ n sc σ e b → Ifs prog w h₀ n sc σ [e] b

inductive CompL (prog : Program) (w : World) (h₀ : Heap) (n : Nat) (sc : Scope) (target : Expr) (ifs : List Expr) (elt : Expr) (σ : Sto) : List D → List D → Prop
  | nil : CompL prog w h₀ n sc target ifs elt σ [] []
  | cons {d y : D} {ds ys : List D} {bs : Sto} : Asg prog w sc target d bs → Ifs prog w h₀ n sc (bs ++ σ) ifs true → Ev prog w h₀ n sc (bs ++ σ) elt y → CompL prog w h₀ n sc target ifs elt σ ds ys → CompL prog w h₀ n sc target ifs elt σ (d :: ds) (y :: ys)
  | skip {d : D} {ds ys : List D} {bs : Sto} : Asg prog w sc target d bs → Ifs prog w h₀ n sc (bs ++ σ) ifs false → CompL prog w h₀ n sc target ifs elt σ ds ys → CompL prog w h₀ n sc target ifs elt σ (d :: ds) ys

theorem ifs_run {ifs : List Expr} {b : Bool} (h : Ifs prog w h₀ n sc σ ifs b) {env : Env} (he : EnvFor sc env) {A : Around} {s : Shared} {av : Addr → Prop} {Q : Bool → Shared → Prop} {E : Value → Shared → Prop} (rm : Room n A) (k0 : Kp h₀ s.heap) (ha : AvIn av s.heap) (sees : Sees s.heap av env σ)
    (q : ∀ h' tk, Kp s.heap h' → Q b { s with heap := h', toks := tk }) :
    wpAny (model prog w) A (forIn ifs true fun c r => if r = true then do let ok ← isTrue c env (eval c env); pure (ForInStep.yield ok) else pure (ForInStep.yield r)) Q E s := by
  cases h with
  | none => exact wpAny_tests_nil (q s.heap s.toks (Kp.refl _))
  | one h => exact wpAny_tests_one (h env he A s av _ _ rm k0 ha sees q)

theorem comp_core {elt target iter : Expr} {ifs : List Expr} {scope : Scope} {pos : Pos} {ds ys : List D} (hsrc : Src prog w h₀ n sc σ iter ds) (hlen : ds.length ≤ 1000)
    (hl : CompL prog w h₀ n (relabelS scope sc) target ifs elt (capt scope σ) ds ys)
    (hcell : ∀ y ∈ scope.names, y.2 ≠ .cell) (hkind : scope.kind = .function)
    (hcap : ∀ p ∈ scope.names, p.2 = .free → (sc.names.lookup p.1 = some .cell ∨ sc.names.lookup p.1 = some .free))
    {env : Env} (he : EnvFor sc env) {A : Around} {s : Shared} {av : Addr → Prop} {E : Value → Shared → Prop} (rm : Room n A) (k0 : Kp h₀ s.heap) (ha : AvIn av s.heap) (sees : Sees s.heap av env σ)
    {RR : Value → Addr → Result → Shared → Prop}
    (hRR : ∀ D C h tk m, Kp s.heap h → Rep h av (.lst ys) (.ref D) → h.Ns C m → s.heap.get? C = none → RR (.ref D) C (.ok .next) { s with heap := h, toks := tk }) :
    wpAny (model prog w) A (eval iter env) (fun x s₁ => wpAny (model prog w) A (pyIter x) (fun it s₂ => wpAny (model prog w) A (newList []) (fun acc s₃ =>
      wpAny (model prog w) A (newFunctionEnv scope env.globals (closOf env scope.names []) [] env.qual none .none (some env)) (fun cenv s₄ =>
        codeAny (model prog w) A (.compStart (.ListComp elt [⟨target, iter, ifs, 0⟩] scope pos) 0 it acc { cenv with scope := relabel scope env }) (RR acc cenv.locals) s₄) E s₃) E s₂) E s₁) E s := by
  refine hsrc env he A s av _ _ rm k0 ha sees fun I hb tkb P St fp kb hI it => ?_
  refine wpAny_newObj_type (wpAny_newFunctionEnv hcell (by intro y hy; simp at hy) (fun h₁ hns₁ hsb₁ => ?_) hkind)
  dsimp only at hns₁ hsb₁ ⊢
  generalize hH2 : hb.push { cls := .type "list", dict := none, data := .seq ([] : List Value).toArray } = H2 at hns₁ hsb₁ ⊢
  have hC : H2.objs.size = hb.objs.size + 1 := by rw [← hH2, Heap.size_push]
  have hDC : hb.objs.size ≠ H2.objs.size := by rw [hC]; exact Nat.ne_of_lt (Nat.lt_succ_self _)
  have below : ∀ b, b < hb.objs.size → b ≠ H2.objs.size ∧ b ≠ hb.objs.size := fun b hb' => ⟨by rw [hC]; exact Nat.ne_of_lt (Nat.lt_succ_of_lt hb'), Nat.ne_of_lt hb'⟩
  have hDf : hb.objs.size ∉ fp := fun hm => Nat.lt_irrefl _ (it.fits _ hm)
  have hCf : H2.objs.size ∉ fp := fun hm => by have := it.fits _ hm; rw [hC] at this; exact Nat.lt_irrefl _ (Nat.lt_of_succ_lt this)
  have hIf : I ∈ fp := it.walk.sub I (List.mem_singleton.mpr rfl)
  have hIlt : I < hb.objs.size := it.fits I hIf
  have hCI : I ≠ H2.objs.size := (below I hIlt).1
  have hDI : I ≠ hb.objs.size := (below I hIlt).2
  have old : Kp hb h₁ := fun b o e => hsb₁.extBut b o (below b (Heap.lt_size e)).1 (Heap.get?_push_of_some _ (hH2 ▸ Heap.get?_push_of_some _ e))
  have hacc : h₁.get? hb.objs.size = some (lstO [] 0) := hsb₁.extBut _ _ hDC (Heap.get?_push_of_some _ (hH2 ▸ Heap.get?_push_size _ rfl))
  have hst₁ : St 0 h₁ := it.walk.frame _ _ _ it.start fun b _ o e => old b o e
  have freshD : hb.get? hb.objs.size = none := Heap.get?_none_of_le (Nat.le_refl _)
  have freshC : hb.get? H2.objs.size = none := Heap.get?_none_of_le (by rw [hC]; exact Nat.le_succ _)
  -- what the turns must keep
  let av' : Addr → Prop := fun a => av a ∨ a = hb.objs.size
  have henv : EnvFor (relabelS scope sc) (compEnvC scope (closOf env scope.names []) H2.objs.size env) := ⟨relabel_eq he, he.globals, he.builtins⟩
  have nsqI : ∀ i H, St i H → NoSeq (fun b => b = I) H := fun i H st a o ea eo => by
    subst ea
    obtain ⟨o', e', nq, _⟩ := it.obj i H st
    rw [e'] at eo; cases eo; exact nq
  have sOf : ∀ H : Heap, (∀ b o, b ≠ I → hb.get? b = some o → H.get? b = some o) → Kp s.heap H := fun H k b o e => k b o (fun q => by rw [q, hI] at e; cases e) (kb b o e)
  have loop : ∀ s₃ : Shared, s₃ = { s with heap := h₁, toks := tkb + ([] : List (Str × Value)).length } →
      codeAny (model prog w) A (.compLoop (.ListComp elt [⟨target, iter, ifs, 0⟩] scope pos) 0 (.ref I) (.ref hb.objs.size) (compEnvC scope (closOf env scope.names []) H2.objs.size env))
        (RR (.ref hb.objs.size) H2.objs.size) s₃ := by
    rintro s₃ rfl
    refine compLoop_any
      (fun k s' => ∃ H tk i ysD ysV m' ys' e, s' = { s with heap := H, toks := tk } ∧ i ≤ ds.length ∧ k = ds.length + 1 - i ∧ St i H ∧ (∀ b o, b ≠ I → hb.get? b = some o → H.get? b = some o) ∧ H.Ns H2.objs.size m' ∧
        H.get? hb.objs.size = some (lstO ysV e) ∧ ysV.length ≤ i ∧ RepL H av' ysD ysV ∧ CompL prog w h₀ n (relabelS scope sc) target ifs elt (capt scope σ) (ds.drop i) ys' ∧ ysD ++ ys' = ys) ?_ (ds.length + 1)
      ⟨h₁, _, 0, [], [], _, ys, 0, rfl, Nat.zero_le _, rfl, hst₁, fun b o _ e => old b o e, hns₁, hacc, Nat.zero_le _, rfl, hl, rfl⟩
    rintro k s' ⟨H, tk, i, ysD, ysV, m', ys', e, rfl, hi, rfl, hst, hkeep, hn', hD, hyl, rl, hcl, hys⟩
    by_cases hlt : i < ds.length
    · refine it.walk.item i _ _ _ hlt hst fun v H1 tk1 hPv hst1 hk1 => ?_
      have k1 : KpM (fun b => b = I) H H1 := fun b o hb' e' => hk1 b o (by simpa using hb') e'
      obtain ⟨oI, hoI, _, hcI⟩ := it.obj _ _ hst1
      refine letGo_iter hoI hcI ?_
      have hd : ds.drop i = ds[i] :: ds.drop (i + 1) := List.drop_eq_getElem_cons hlt
      rw [hd] at hcl
      have nsq := nsqI i H hst
      have hn1 : H1.Ns H2.objs.size m' := hn'.at' fun o e' => hk1 _ o (by simpa using Ne.symm hCI) e'
      have hD1 : H1.get? hb.objs.size = some (lstO ysV e) := hk1 _ _ (by simpa using Ne.symm hDI) hD
      have keep1 : ∀ b o, b ≠ I → hb.get? b = some o → H1.get? b = some o := fun b o hb' e' => hk1 b o (by simpa using hb') (hkeep b o hb' e')
      have kseq1 : KeepsSeq av av' hb H1 := fun a o na hs e' => ⟨keep1 a o (fun q => by
          subst q
          exact nsqI 0 hb it.start _ _ rfl e' hs) e', fun q => q.elim na fun q => by rw [q, freshD] at e'; cases e'⟩
      have rv : Rep H1 av' ds[i] v := (it.rep i v _ hPv (List.getElem?_eq_getElem hlt)).mono kseq1
      have hav1 : AvIn av' H1 := fun a ha' => ha'.elim (fun ha' => by
        obtain ⟨o, e', q⟩ := ha a ha'
        exact ⟨o, (sOf H1 keep1) _ _ e', q⟩) fun ha' => by subst ha'; exact ⟨_, hD1, _, _, rfl⟩
      have rl1 : RepL H1 av' ysD ysV := rl.mono (k1.seq nsq av')
      -- after the assignment
      have after : ∀ (bs : Sto) (H2' : Heap) (m2 : Str → Option Value), H2'.Ns H2.objs.size m2 → KpM (fun b => b = H2.objs.size) H1 H2' → Binds H2' av' (compEnvC scope (closOf env scope.names []) H2.objs.size env) m2 bs →
          (∀ b o, b ≠ I → hb.get? b = some o → H2'.get? b = some o) ∧ Kp h₀ H2' ∧ AvIn av' H2' ∧ Sees H2' av' (compEnvC scope (closOf env scope.names []) H2.objs.size env) (bs ++ capt scope σ) ∧ St (i + 1) H2' ∧ RepL H2' av' ysD ysV ∧ H2'.get? hb.objs.size = some (lstO ysV e) := by
        intro bs H2' m2 hn2 k2 b2
        have nsq2 : NoSeq (fun b => b = H2.objs.size) H1 := fun a o ea eo => by subst ea; exact ns_noSeq hn1 o eo
        have keep2 : ∀ b o, b ≠ I → hb.get? b = some o → H2'.get? b = some o := fun b o hb' e' => k2 b o (fun q => by rw [q, freshC] at e'; cases e') (keep1 b o hb' e')
        refine ⟨keep2, k0.trans (sOf _ keep2), k2.av nsq2 hav1, fun x d hx => ?_, it.walk.frame _ _ _ hst1 fun b hbf o e' => k2 b o (fun q => hCf (q ▸ hbf)) e', rl1.mono (k2.seq nsq2 av'), k2 _ _ hDC hD1⟩
        rw [List.lookup_append] at hx
        cases hbs : bs.lookup x with
        | some d' =>
          rw [hbs] at hx
          obtain rfl : d' = d := by simpa using hx
          obtain ⟨kx, v', ev, rv'⟩ := b2 x d' hbs
          exact ⟨v', rv', .inl ⟨kx, m2, hn2, ev⟩⟩
        | none =>
          rw [hbs, Option.none_or] at hx
          obtain ⟨hx1, hx2⟩ := capt_lookup hx
          obtain ⟨v', rv', hcase⟩ := sees x d hx1
          have kS := sOf _ keep2
          have rv'' : Rep H2' av' d v' := rv'.mono fun a o na hs e' => ⟨kS a o e', fun q => q.elim na fun q => by rw [q, kb.fresh freshD] at e'; cases e'⟩
          have kfree := hcap (x, .free) (lookup_mem hx2) rfl
          rcases hcase with ⟨kl, _⟩ | ⟨_, c, ec, ecell⟩
          · rw [he.kind] at kl
            rcases kfree with q | q <;> rw [q] at kl <;> cases kl
          · refine ⟨v', rv'', .inr ⟨?_, c, ?_, ecell.keeps kS⟩⟩
            · rw [henv.kind]
              rcases lookup_relabelS (sc := sc) hx2 with q | q
              · exact .inl q
              · exact .inr q
            · exact closOf_lookup ec _ _ (.inr ⟨lookup_mem hx2, rfl⟩)
      cases hcl with
      | cons hasg hifs hev hcl' =>
        refine hasg _ henv A _ av' v m' _ _ (rm.mono (Nat.zero_le _)) hav1 rv hn1 fun H2' tk2 m2 hn2 k2 b2 _ => ?_
        obtain ⟨keep2, kh2, hav2, sees2, st2, rl2, hD2⟩ := after _ _ _ hn2 k2 b2
        refine ifs_run hifs henv rm kh2 hav2 sees2 fun H3 tk3 k3 => ?_
        simp only [if_true]
        refine hev _ henv A _ av' _ _ rm (kh2.trans k3) (hav2.keeps k3) (sees2.keeps k3) fun y H4 tk4 k4 r4 => ?_
        have hD4 : H4.get? hb.objs.size = some (lstO ysV e) := k4 _ _ (k3 _ _ hD2)
        refine append_at (hsz := by show ysV.toArray.size ≤ sizeLine; rw [List.size_toArray]; unfold sizeLine; omega) hD4 fun H5 hs5 hD5 => ?_
        have kseq5 : KeepsSeq av' av' H4 H5 := fun a o na hs e' => ⟨hs5.extBut a o (fun q => na (.inr q)) e', na⟩
        refine ⟨ds.length + 1 - (i + 1), by omega, H5, tk4, i + 1, ysD ++ [_], ysV ++ [y], m2, _, e + 1, rfl, hlt, rfl, ?_, ?_, ?_, ?_, ?_, ?_, hcl', by rw [List.append_assoc]; exact hys⟩
        · exact it.walk.frame _ _ _ st2 fun b hbf o e' => hs5.extBut b o (fun q => hDf (q ▸ hbf)) (k4 _ _ (k3 _ _ e'))
        · exact fun b o hb' e' => hs5.extBut b o (fun q => by rw [q, freshD] at e'; cases e') (k4 _ _ (k3 _ _ (keep2 b o hb' e')))
        · exact ((hn2.keeps k3).keeps k4).sameBut hs5 (Ne.symm hDC)
        · rw [hD5]; simp [List.push_toArray]
        · rw [List.length_append, List.length_singleton]; omega
        · exact ((rl2.mono ((k3.trans k4).seq av')).mono kseq5).append (RepL.one (r4.mono kseq5))
      | skip hasg hifs hcl' =>
        refine hasg _ henv A _ av' v m' _ _ (rm.mono (Nat.zero_le _)) hav1 rv hn1 fun H2' tk2 m2 hn2 k2 b2 _ => ?_
        obtain ⟨keep2, kh2, hav2, sees2, st2, rl2, hD2⟩ := after _ _ _ hn2 k2 b2
        refine ifs_run hifs henv rm kh2 hav2 sees2 fun H3 tk3 k3 => ?_
        simp only [Bool.false_eq_true, if_false]
        exact ⟨ds.length + 1 - (i + 1), by omega, H3, tk3, i + 1, ysD, ysV, m2, _, e, rfl, hlt, rfl, it.walk.frame _ _ _ st2 fun b hbf o e' => k3 _ _ e', fun b o hb' e' => k3 _ _ (keep2 b o hb' e'), hn2.keeps k3, k3 _ _ hD2, by omega,
          rl2.mono (k3.seq av'), hcl', hys⟩
    · obtain rfl : i = ds.length := Nat.le_antisymm hi (Nat.not_lt.mp hlt)
      rw [List.drop_length] at hcl
      cases hcl
      rw [List.append_nil] at hys
      subst hys
      refine it.walk.done _ _ _ hst fun H1 tk1 hk1 => ?_
      have k1 : KpM (fun b => b = I) H H1 := fun b o hb' e' => hk1 b o (by simpa using hb') e'
      have nsq := nsqI _ H hst
      have keep1 : ∀ b o, b ≠ I → hb.get? b = some o → H1.get? b = some o := fun b o hb' e' => hk1 b o (by simpa using hb') (hkeep b o hb' e')
      refine hRR _ _ H1 tk1 m' (sOf _ keep1) ⟨_, ysV, e, rfl, fun q => ?_, hk1 _ _ (by simpa using Ne.symm hDI) hD, (rl.mono (k1.seq nsq av')).mono fun a o na hs e' => ⟨e', fun q => na (.inl q)⟩⟩ (hn'.at' fun o e' => hk1 _ o (by simpa using Ne.symm hCI) e') (kb.fresh freshC)
      obtain ⟨o, e', _⟩ := ha _ q
      rw [kb.fresh freshD] at e'; cases e'
  exact codeAny_compStart_list (loop _ rfl) (it.walk.self 0 _ _ _ hst₁ (loop _ rfl))

theorem cells_of {scope : Scope} (hcap : ∀ p ∈ scope.names, p.2 = .free → (sc.names.lookup p.1 = some .cell ∨ sc.names.lookup p.1 = some .free) ∧ (σ.lookup p.1).isSome = true)
    {env : Env} (he : EnvFor sc env) {h : Heap} {av : Addr → Prop} (sees : Sees h av env σ) : ∀ p ∈ scope.names, p.2 = .free → ∃ c, env.cells.lookup p.1 = some c := fun p hp hf => by
  obtain ⟨h1, h2⟩ := hcap p hp hf
  obtain ⟨d, hd⟩ := Option.isSome_iff_exists.mp h2
  obtain ⟨v, _, ⟨kl, _⟩ | ⟨_, c, ec, _⟩⟩ := sees _ _ hd
  · rw [he.kind] at kl
    rcases h1 with q | q <;> rw [q] at kl <;> cases kl
  · exact ⟨c, ec⟩

/-- the names of a comprehension's block -/
def scopeOk (scope sc : Scope) : Bool := scope.kind == .function && scope.names.all fun p => p.2 != .cell && (p.2 != .local || scope.names.lookup p.1 == some .local) && (p.2 != .free || sc.names.lookup p.1 == some .cell || sc.names.lookup p.1 == some .free)
def capsOk (scope : Scope) (σ : Sto) : Bool := scope.names.all fun p => p.2 != .free || (σ.lookup p.1).isSome
theorem scopeOk_all {scope sc : Scope} (h : scopeOk scope sc = true) : scope.kind = .function ∧ (∀ y ∈ scope.names, y.2 ≠ .cell) ∧ (∀ y ∈ scope.names, y.2 = .local → scope.names.lookup y.1 = some .local) ∧ (∀ p ∈ scope.names, p.2 = .free → (sc.names.lookup p.1 = some .cell ∨ sc.names.lookup p.1 = some .free)) := by
  unfold scopeOk at h
  simp only [Bool.and_eq_true, List.all_eq_true, Bool.or_eq_true, bne_iff_ne, ne_eq, beq_iff_eq] at h
  obtain ⟨h1, h2⟩ := h
  refine ⟨h1, fun y hy => (h2 y hy).1.1, fun y hy e => (h2 y hy).1.2.resolve_left (fun q => q e), fun p hp e => ?_⟩
  rcases (h2 p hp).2 with (q | q) | q
  · exact absurd e q
  · exact .inl q
  · exact .inr q
theorem capsOk_all {scope : Scope} (h : capsOk scope σ = true) : ∀ p ∈ scope.names, p.2 = .free → (σ.lookup p.1).isSome = true := fun p hp e => by
  unfold capsOk at h
  have := List.all_eq_true.mp h p hp
  simp only [Bool.or_eq_true, bne_iff_ne, ne_eq] at this
  exact this.resolve_left fun q => q e

theorem ev_comp {elt target iter : Expr} {ifs : List Expr} {scope : Scope} {pos : Pos} {ds ys : List D} (hsrc : Src prog w h₀ n sc σ iter ds) (hl : CompL prog w h₀ n (relabelS scope sc) target ifs elt (capt scope σ) ds ys) (hlen : ds.length ≤ 1000)
    (hok : scopeOk scope sc = true) (hca : capsOk scope σ = true) (hs : ∀ env x, foldedSetIterable iter env x = pure x := by intro _ _; rfl) : Ev prog w h₀ n sc σ (.ListComp elt [⟨target, iter, ifs, 0⟩] scope pos) (.lst ys) :=
  fun env he A s av Q E rm k0 ha sees q => by
    obtain ⟨o1, o2, o3, o4⟩ := scopeOk_all hok
    have o5 := capsOk_all hca
    rw [eval_ListComp]
    refine wpAny_comprehension_free (use := none) rfl (hs env) (closureFor_eq (cells_of (fun p hp hf => ⟨o4 p hp hf, o5 p hp hf⟩) he sees)) o1 o3 ?_
    refine comp_core (RR := fun acc C => compPost (model prog w) A E none Q acc C) hsrc hlen hl o2 o1 o4 he rm k0 ha sees fun D C h tk m kp r hn hf => ?_
    refine ⟨m, hn, fun h' hs' => q _ _ _ (fun b o e => hs'.extBut b o (fun q => by rw [q, hf] at e; cases e) (kp b o e)) (r.mono ((SameBut.kpm hs').seq (fun a o ea eo => by subst ea; exact ns_noSeq hn o eo) av))⟩
end
end Mine
end

section
open PySem PySem.W PyProof.Rows PySem.Calls PySem.Spec
set_option Elab.async false
set_option linter.unusedVariables false
namespace Mine

/-- what a frame may change -/
def Mut (env : Env) (a : Addr) : Prop := a = env.locals ∨ ∃ x, env.cells.lookup x = some a

structure Frm (h₀ h : Heap) (env : Env) : Prop where
  ns : ∃ m, h.Ns env.locals m
  aboveL : h₀.get? env.locals = none
  cell : ∀ x c, env.cells.lookup x = some c → ∃ v, h.IsCell c v
  apart : env.cells.Pairwise fun x y => x.2 ≠ y.2
  aboveC : ∀ x c, env.cells.lookup x = some c → h₀.get? c = none
  has : ∀ x, env.kindOf x = some .cell → ∃ c, env.cells.lookup x = some c

theorem Frm.noSeq {h₀ h : Heap} {env : Env} (f : Frm h₀ h env) : NoSeq (Mut env) h := fun a o hm e => by
  rcases hm with rfl | ⟨x, hx⟩
  · obtain ⟨m, hn⟩ := f.ns; exact ns_noSeq hn o e
  · obtain ⟨v, hc⟩ := f.cell x a hx; exact cell_noSeq hc o e
theorem Frm.keeps {h₀ h h' : Heap} {env : Env} (f : Frm h₀ h env) (k : Kp h h') : Frm h₀ h' env :=
  ⟨let ⟨m, hn⟩ := f.ns; ⟨m, hn.keeps k⟩, f.aboveL, fun x c hc => let ⟨v, hv⟩ := f.cell x c hc; ⟨v, hv.keeps k⟩, f.apart, f.aboveC, f.has⟩
theorem Frm.kp {h₀ h h' : Heap} {env : Env} (f : Frm h₀ h env) (k : KpM (Mut env) h h') (k0 : Kp h₀ h) : Kp h₀ h' := fun b o e => k b o (fun hm => by
  rcases hm with rfl | ⟨x, hx⟩
  · rw [f.aboveL] at e; cases e
  · rw [f.aboveC x b hx] at e; cases e) (k0 b o e)

inductive Out where
  | next (σ : Sto)
  | ret (d : D)
def OutIs (h : Heap) (av : Addr → Prop) (env : Env) : Out → Flow → Prop
  | .next σ, f => f = .next ∧ Sees h av env σ
  | .ret d, f => ∃ v, f = .ret v ∧ Rep h av d v

section
variable (prog : Program) (w : World) (h₀ : Heap)
def Ex (n : Nat) (sc : Scope) (σ : Sto) (sts : List Stmt) (out : Out) : Prop :=
  ∀ (env : Env), EnvFor sc env → ∀ (A : Around) (s : Shared) (av : Addr → Prop) (Q : Flow → Shared → Prop) (E : Value → Shared → Prop),
    Room n A → Kp h₀ s.heap → AvIn av s.heap → Frm h₀ s.heap env → Sees s.heap av env σ →
    (∀ f h' tk, KpM (Mut env) s.heap h' → Frm h₀ h' env → OutIs h' av env out f → Q f { s with heap := h', toks := tk }) →
    wpAny (model prog w) A (execs sts env) Q E s
def Ex1 (n : Nat) (sc : Scope) (σ : Sto) (st : Stmt) (out : Out) : Prop :=
  ∀ (env : Env), EnvFor sc env → ∀ (A : Around) (s : Shared) (av : Addr → Prop) (Q : Flow → Shared → Prop) (E : Value → Shared → Prop),
    Room n A → Kp h₀ s.heap → AvIn av s.heap → Frm h₀ s.heap env → Sees s.heap av env σ →
    (∀ f h' tk, KpM (Mut env) s.heap h' → Frm h₀ h' env → OutIs h' av env out f → Q f { s with heap := h', toks := tk }) →
    wpAny (model prog w) A (exec st env) Q E s
end

section
variable {prog : Program} {w : World} {K : Frag} {h₀ : Heap} {n : Nat} {sc : Scope} {σ : Sto}

theorem ex_nil : Ex prog w h₀ n sc σ [] (.next σ) := fun env he A s av Q E rm k0 ha fr sees q => wpAny_execs_nil (q _ s.heap s.toks (KpM.refl _ _) fr ⟨rfl, sees⟩)
theorem ex_cons {st : Stmt} {rest : List Stmt} {σ' : Sto} {out : Out} (h : Ex1 prog w h₀ n sc σ st (.next σ')) (hr : Ex prog w h₀ n sc σ' rest out) : Ex prog w h₀ n sc σ (st :: rest) out :=
  fun env he A s av Q E rm k0 ha fr sees q => wpAny_execs_cons (h env he A s av _ _ rm k0 ha fr sees fun f h1 t1 k1 fr1 o1 => by
    obtain ⟨rfl, s1⟩ := o1
    exact hr env he A _ av _ _ rm (fr.kp k1 k0) (k1.av fr.noSeq ha) fr1 s1 fun f h2 t2 k2 fr2 o2 => q f h2 t2 (k1.trans k2) fr2 o2)
theorem ex_ret {st : Stmt} {rest : List Stmt} {d : D} (h : Ex1 prog w h₀ n sc σ st (.ret d)) : Ex prog w h₀ n sc σ (st :: rest) (.ret d) :=
  fun env he A s av Q E rm k0 ha fr sees q => wpAny_execs_cons (h env he A s av _ _ rm k0 ha fr sees fun f h1 t1 k1 fr1 o1 => by
    obtain ⟨v, rfl, r1⟩ := o1
    exact q _ h1 t1 k1 fr1 ⟨v, rfl, r1⟩)
theorem ex1_return {e : Expr} {pos : Pos} {d : D} (h : Ev prog w h₀ n sc σ e d) : Ex1 prog w h₀ n sc σ (.Return (some e) pos) (.ret d) :=
  fun env he A s av Q E rm k0 ha fr sees q => wpAny_Return_some (h env he A s av _ _ rm k0 ha sees fun v h1 t1 k1 r1 => q _ h1 t1 (k1.m _) (fr.keeps k1) ⟨v, rfl, r1⟩)
theorem ex1_if {test : Expr} {body orelse : List Stmt} {pos : Pos} {b : Bool} {out : Out} (h : Tr prog w h₀ n sc σ test b) (h1 : b = true → Ex prog w h₀ n sc σ body out) (h2 : b = false → Ex prog w h₀ n sc σ orelse out) :
    Ex1 prog w h₀ n sc σ (.If test body orelse pos) out :=
  fun env he A s av Q E rm k0 ha fr sees q => wpAny_If (h env he A s av _ _ rm k0 ha sees fun h' t1 k1 => by
    cases b
    · exact h2 rfl env he A _ av _ _ rm (k0.trans k1) (ha.keeps k1) (fr.keeps k1) (sees.keeps k1) fun f h2 t2 k2 fr2 o2 => q f h2 t2 ((k1.m _).trans k2) fr2 o2
    · exact h1 rfl env he A _ av _ _ rm (k0.trans k1) (ha.keeps k1) (fr.keeps k1) (sees.keeps k1) fun f h2 t2 k2 fr2 o2 => q f h2 t2 ((k1.m _).trans k2) fr2 o2)

/-- a name takes a value -/
theorem store_name {x : Str} {env : Env} (he : EnvFor sc env) (hk : sc.kind = .function) (hx : sc.names.lookup x = some .local ∨ (sc.names.lookup x = some .cell)) {A : Around} {s : Shared} {av : Addr → Prop} {Q : Unit → Shared → Prop} {E : Value → Shared → Prop} {v : Value} {d : D}
    (ha : AvIn av s.heap) (fr : Frm h₀ s.heap env) (sees : Sees s.heap av env σ) (r : Rep s.heap av d v)
    (q : ∀ h' tk, KpM (Mut env) s.heap h' → Frm h₀ h' env → Sees h' av env ((x, d) :: σ) → Q () { s with heap := h', toks := tk }) : wpAny (model prog w) A (storeName env x v) Q E s := by
  rcases hx with hx | hx
  · obtain ⟨m, hn⟩ := fr.ns
    refine wpAny_storeName_local (by rw [he.kind]; exact hx) hn (fun h' hn' hs' => ?_) (fnScope he hk)
    have kp1 := SameBut.kpm hs'
    have kp : KpM (Mut env) s.heap h' := kp1.weaken fun b e => .inl e
    have kc : ∀ y c, env.cells.lookup y = some c → c ≠ env.locals := fun y c hc e => by
      obtain ⟨v', o, eo, hd⟩ := fr.cell y c hc
      obtain ⟨o', es, ep, eo', hd', _⟩ := hn
      rw [e] at eo; rw [eo] at eo'; cases eo'; rw [hd] at hd'; cases hd'
    refine q h' _ kp ⟨⟨_, hn'⟩, fr.aboveL, fun y c hc => ?_, fr.apart, fr.aboveC, fr.has⟩ fun y e hy => ?_
    · obtain ⟨v', hv'⟩ := fr.cell y c hc
      exact ⟨v', hv'.sameBut hs' (kc y c hc)⟩
    · rw [List.lookup_cons] at hy
      have kseq := kp.seq fr.noSeq av
      cases hb : y == x with
      | true =>
        rw [hb] at hy; cases hy
        have e' := beq_iff_eq.mp hb; subst e'
        exact ⟨v, r.mono kseq, .inl ⟨by rw [he.kind]; exact hx, _, hn', by simp⟩⟩
      | false =>
        rw [hb] at hy
        obtain ⟨v', rv, ⟨k', m', hn'', em⟩ | ⟨k', c, ec, hc⟩⟩ := sees y e hy
        · refine ⟨v', rv.mono kseq, .inl ⟨k', _, hn', ?_⟩⟩
          have := hn''.agree hn y
          simp [beq_eq_false_iff_ne.mp hb, ← this, em]
        · exact ⟨v', rv.mono kseq, .inr ⟨k', c, ec, hc.sameBut hs' (kc y c ec)⟩⟩
  · obtain ⟨c, hc⟩ := fr.has x (by rw [he.kind]; exact hx)
    obtain ⟨v₀, hv₀⟩ := fr.cell x c hc
    refine wpAny_storeName_cell (by rw [he.scope]; exact hk) (by rw [he.kind]; exact hx) hc hv₀ fun h' hv' hs' => ?_
    have kp1 := SameBut.kpm hs'
    have kp : KpM (Mut env) s.heap h' := kp1.weaken fun b e => .inr ⟨x, by rw [e]; exact hc⟩
    obtain ⟨m, hn⟩ := fr.ns
    have kL : env.locals ≠ c := fun e => by
      obtain ⟨o, eo, hd⟩ := hv₀
      obtain ⟨o', es, ep, eo', hd', _⟩ := hn
      rw [← e] at eo; rw [eo] at eo'; cases eo'; rw [hd] at hd'; cases hd'
    have kc : ∀ y c', env.cells.lookup y = some c' → y ≠ x → c' ≠ c := fun y c' hc' hne e => by
      subst e
      exact hne (name_of_addr fr.apart (PySem.mem_of_lookup hc') (PySem.mem_of_lookup hc))
    refine q h' s.toks kp ⟨⟨m, hn.sameBut hs' kL⟩, fr.aboveL, fun y c' hc' => ?_, fr.apart, fr.aboveC, fr.has⟩ fun y e hy => ?_
    · by_cases hyx : y = x
      · subst hyx; rw [hc] at hc'; cases hc'; exact ⟨_, hv'⟩
      · obtain ⟨v', hv''⟩ := fr.cell y c' hc'
        exact ⟨v', hv''.sameBut hs' (kc y c' hc' hyx)⟩
    · rw [List.lookup_cons] at hy
      have kseq := kp.seq fr.noSeq av
      cases hb : y == x with
      | true =>
        rw [hb] at hy; cases hy
        have e' := beq_iff_eq.mp hb; subst e'
        exact ⟨v, r.mono kseq, .inr ⟨.inl (by rw [he.kind]; exact hx), c, hc, hv'⟩⟩
      | false =>
        rw [hb] at hy
        obtain ⟨v', rv, ⟨k', m', hn'', em⟩ | ⟨k', c', ec, hc'⟩⟩ := sees y e hy
        · exact ⟨v', rv.mono kseq, .inl ⟨k', m', hn''.sameBut hs' kL, em⟩⟩
        · exact ⟨v', rv.mono kseq, .inr ⟨k', c', ec, hc'.sameBut hs' (kc y c' ec (beq_eq_false_iff_ne.mp hb))⟩⟩

theorem ex1_assign {x : Str} {p pos : Pos} {value : Expr} {d : D} (h : Ev prog w h₀ n sc σ value d) (hx : sc.names.lookup x = some .local ∨ sc.names.lookup x = some .cell)
    (hs : ∀ env, EnvFor sc env → swapsWith value (some (.Name x p)) pos.line env = pure false) (hk : sc.kind = .function := by rfl) : Ex1 prog w h₀ n sc σ (.Assign [.Name x p] value pos) (.next ((x, d) :: σ)) :=
  fun env he A s av Q E rm k0 ha fr sees q => wpAny_Assign_Name (h env he A s av _ _ rm k0 ha sees fun v h1 t1 k1 r1 =>
    store_name he hk hx (ha.keeps k1) (fr.keeps k1) (sees.keeps k1) r1 fun h2 t2 k2 fr2 s2 => q _ h2 t2 ((k1.m _).trans k2) fr2 ⟨rfl, s2⟩) (hs env he)

theorem ex1_assignComp {x : Str} {p spos : Pos} {elt target iter : Expr} {ifs : List Expr} {scope : Scope} {pos : Pos} {ds ys : List D} (hsrc : Src prog w h₀ n sc σ iter ds) (hl : CompL prog w h₀ n (relabelS scope sc) target ifs elt (capt scope σ) ds ys) (hlen : ds.length ≤ 1000)
    (hok : scopeOk scope sc = true) (hca : capsOk scope σ = true) (hx : sc.names.lookup x = some .local)
    (hsw : ∀ env, EnvFor sc env → swapsWith (.ListComp elt [⟨target, iter, ifs, 0⟩] scope pos) (some (.Name x p)) spos.line env = pure true) (hk : sc.kind = .function := by rfl)
    (hs : ∀ env x, foldedSetIterable iter env x = pure x := by intro _ _; rfl) : Ex1 prog w h₀ n sc σ (.Assign [.Name x p] (.ListComp elt [⟨target, iter, ifs, 0⟩] scope pos) spos) (.next ((x, .lst ys) :: σ)) :=
  fun env he A s av Q E rm k0 ha fr sees q => by
    obtain ⟨o1, o2, o3, o4⟩ := scopeOk_all hok
    have o5 := capsOk_all hca
    rw [exec_Assign_Name_used _ _ _ _ (hsw env he)]
    refine wpAny_bind (wpAny_standAt (wpAny_bind ?_))
    show wpAny _ A (do let _ ← comprehension (.ListComp elt [⟨target, iter, ifs, 0⟩] scope pos) scope env _ (newList []) false (eval iter env) (some (assign (.Name x p) env))) _ _ s
    refine wpAny_bind (wpAny_mono (wpAny_comprehension_free (use := some (assign (.Name x p) env)) (Q := fun _ s' => Q .next s') rfl (hs env) (closureFor_eq (cells_of (fun p hp hf => ⟨o4 p hp hf, o5 p hp hf⟩) he sees)) o1 o3 ?_)
      (fun _ s' hq => wpAny_pure (wpAny_pure hq)) fun _ _ e => e)
    refine comp_core (RR := fun acc C => compPost (model prog w) A E (some (assign (.Name x p) env)) (fun _ s' => Q .next s') acc C) hsrc hlen hl o2 o1 o4 he rm k0 ha sees fun D C h tk m kp r hn hf => ?_
    show wpAny _ A (assign (.Name x p) env (.ref D)) _ _ _
    refine wpAny_assign_Name (store_name he hk (.inl hx) (ha.keeps kp) (fr.keeps kp) (sees.keeps kp) r fun h2 t2 k2 fr2 s2 => ?_)
    have hCM : ¬ Mut env C := fun hm => by
      rcases hm with e | ⟨y, hy⟩
      · obtain ⟨m', hn'⟩ := fr.ns
        obtain ⟨o, _, _, eo, _⟩ := hn'
        rw [← e, hf] at eo; cases eo
      · obtain ⟨v, o, eo, _⟩ := fr.cell y C hy
        rw [hf] at eo; cases eo
    have hn2 : h2.Ns C m := hn.at' fun o e => k2 _ o hCM e
    refine ⟨m, hn2, fun h3 hs3 => ?_⟩
    have kC := SameBut.kpm hs3
    have nsq : NoSeq (fun b => b = C) h2 := fun a o ea eo => by subst ea; exact ns_noSeq hn2 o eo
    have hLC : env.locals ≠ C := fun e => hCM (.inl e.symm)
    have hcC : ∀ y c, env.cells.lookup y = some c → c ≠ C := fun y c hc e => hCM (.inr ⟨y, by rw [← e]; exact hc⟩)
    refine q _ h3 t2 ?_ ⟨?_, fr.aboveL, fun y c hc => ?_, fr.apart, fr.aboveC, fr.has⟩ ⟨rfl, fun y e hy => ?_⟩
    · exact fun b o hb e => hs3.extBut b o (fun q => by rw [q, hf] at e; cases e) (k2 b o hb (kp b o e))
    · obtain ⟨m', hn'⟩ := fr2.ns
      exact ⟨m', hn'.sameBut hs3 hLC⟩
    · obtain ⟨v', hv'⟩ := fr2.cell y c hc
      exact ⟨v', hv'.sameBut hs3 (hcC y c hc)⟩
    · obtain ⟨v', rv, ⟨k', m', hn', em⟩ | ⟨k', c', ec, hc'⟩⟩ := s2 y e hy
      · exact ⟨v', rv.mono (kC.seq nsq av), .inl ⟨k', m', hn'.sameBut hs3 hLC, em⟩⟩
      · exact ⟨v', rv.mono (kC.seq nsq av), .inr ⟨k', c', ec, hc'.sameBut hs3 (hcC y c' ec)⟩⟩

/-- locals by a target of several names -/
theorem take_target {env : Env} {target : Expr} {d : D} {bs : Sto} (he : EnvFor sc env) (hasg : Asg prog w sc target d bs) {A : Around} {s : Shared} {av : Addr → Prop} {Q : Unit → Shared → Prop} {E : Value → Shared → Prop} {v : Value} (rm : Room n A)
    (ha : AvIn av s.heap) (fr : Frm h₀ s.heap env) (sees : Sees s.heap av env σ) (r : Rep s.heap av d v)
    (q : ∀ h' tk, KpM (Mut env) s.heap h' → Frm h₀ h' env → Sees h' av env (bs ++ σ) → Q () { s with heap := h', toks := tk }) : wpAny (model prog w) A (assign target env v) Q E s := by
  obtain ⟨m, hn⟩ := fr.ns
  refine hasg env he A s av v m _ _ (rm.mono (Nat.zero_le _)) ha r hn fun h1 t1 m1 hn1 k1 b1 o1 => ?_
  have kp : KpM (Mut env) s.heap h1 := k1.weaken fun b e => .inl e
  have kc : ∀ y c, env.cells.lookup y = some c → c ≠ env.locals := fun y c hc e => by
    obtain ⟨v', o, eo, hd⟩ := fr.cell y c hc
    obtain ⟨o', es, ep, eo', hd', _⟩ := hn
    rw [e] at eo; rw [eo] at eo'; cases eo'; rw [hd] at hd'; cases hd'
  have cellK : ∀ y c v, env.cells.lookup y = some c → s.heap.IsCell c v → h1.IsCell c v := fun y c v hc hv => by
    obtain ⟨o, eo, hd⟩ := hv
    exact ⟨o, k1 _ _ (kc y c hc) eo, hd⟩
  refine q h1 t1 kp ⟨⟨m1, hn1⟩, fr.aboveL, fun y c hc => ?_, fr.apart, fr.aboveC, fr.has⟩ fun y e hy => ?_
  · obtain ⟨v', hv'⟩ := fr.cell y c hc
    exact ⟨v', cellK y c v' hc hv'⟩
  · rw [List.lookup_append] at hy
    cases hbs : bs.lookup y with
    | some d' =>
      rw [hbs] at hy
      obtain rfl : d' = e := by simpa using hy
      obtain ⟨kx, v', ev, rv'⟩ := b1 y d' hbs
      exact ⟨v', rv', .inl ⟨kx, m1, hn1, ev⟩⟩
    | none =>
      rw [hbs, Option.none_or] at hy
      have kseq := kp.seq fr.noSeq av
      obtain ⟨v', rv, ⟨k', m', hn'', em⟩ | ⟨k', c, ec, hc⟩⟩ := sees y e hy
      · refine ⟨v', rv.mono kseq, .inl ⟨k', m1, hn1, ?_⟩⟩
        rw [o1 y hbs, ← hn''.agree hn y]; exact em
      · exact ⟨v', rv.mono kseq, .inr ⟨k', c, ec, cellK y c _ ec hc⟩⟩

theorem ex1_unpack {elts : List Expr} {k : Nat} {tpos pos : Pos} {value : Expr} {d : D} {bs : Sto} (h : Ev prog w h₀ n sc σ value d) (hasg : Asg prog w sc (.Tuple elts k tpos) d bs)
    (hs : ∀ env, swapsWithSole [.Tuple elts k tpos] value pos.line env = pure false := by intro _; rfl) (hw : ∀ env, swappedStores [.Tuple elts k tpos] value env = pure none := by intro _; rfl) :
    Ex1 prog w h₀ n sc σ (.Assign [.Tuple elts k tpos] value pos) (.next (bs ++ σ)) :=
  fun env he A s av Q E rm k0 ha fr sees q => Assign_Tuple (h env he A s av _ _ rm k0 ha sees fun v h1 t1 k1 r1 =>
    take_target he hasg rm (ha.keeps k1) (fr.keeps k1) (sees.keeps k1) r1 fun h2 t2 k2 fr2 s2 => q _ h2 t2 ((k1.m _).trans k2) fr2 ⟨rfl, s2⟩) (hs env) (hw env)

/-- a for's turns; its target a name, a local or a cell -/
inductive ForL (prog : Program) (w : World) (h₀ : Heap) (n : Nat) (sc : Scope) (x : Str) (body : List Stmt) : Sto → List D → Out → Prop
  | nil {σ : Sto} : ForL prog w h₀ n sc x body σ [] (.next σ)
  | cons {σ σ' : Sto} {d : D} {ds : List D} {out : Out} : Ex prog w h₀ n sc ((x, d) :: σ) body (.next σ') → ForL prog w h₀ n sc x body σ' ds out → ForL prog w h₀ n sc x body σ (d :: ds) out
  | ret {σ : Sto} {d r : D} {ds : List D} : Ex prog w h₀ n sc ((x, d) :: σ) body (.ret r) → ForL prog w h₀ n sc x body σ (d :: ds) (.ret r)

theorem ex1_for {x : Str} {p pos : Pos} {iter : Expr} {body : List Stmt} {ds : List D} {out : Out} (hsrc : Src prog w h₀ n sc σ iter ds) (hl : ForL prog w h₀ n sc x body σ ds out) (hx : sc.names.lookup x = some .local ∨ sc.names.lookup x = some .cell)
    (hk : sc.kind = .function := by rfl) (hs : ∀ env x, foldedSetIterable iter env x = pure x := by intro _ _; rfl) : Ex1 prog w h₀ n sc σ (.For (.Name x p) iter body [] pos) out :=
  fun env he A s av Q E rm k0 ha fr sees q => by
    refine wpAny_For (hsrc env he A s av _ _ rm k0 ha sees fun I hb tkb P St fp kb hI it => ?_) (hs env)
    have nsqI : ∀ i H, St i H → NoSeq (fun b => b = I) H := fun i H st a o ea eo => by
      subst ea
      obtain ⟨o', e', nq, _⟩ := it.obj i H st
      rw [e'] at eo; cases eo; exact nq
    have mutOld : ∀ a, Mut env a → ∃ o, s.heap.get? a = some o := fun a hm => by
      rcases hm with rfl | ⟨y, hy⟩
      · obtain ⟨m, o, _, _, e, _⟩ := fr.ns; exact ⟨o, e⟩
      · obtain ⟨v, o, e, _⟩ := fr.cell y a hy; exact ⟨o, e⟩
    have hIM : ¬ Mut env I := fun hm => by obtain ⟨o, e⟩ := mutOld I hm; rw [hI] at e; cases e
    refine codeAny_forLoop
      (fun k s' => ∃ H tk i σ', s' = { s with heap := H, toks := tk } ∧ i ≤ ds.length ∧ k = ds.length + 1 - i ∧ St i H ∧ (∀ b o, b ≠ I → ¬ Mut env b → hb.get? b = some o → H.get? b = some o) ∧ Kp h₀ H ∧ AvIn av H ∧ Frm h₀ H env ∧ Sees H av env σ' ∧
        (∀ a o, isSeq o → hb.get? a = some o → H.get? a = some o) ∧ ForL prog w h₀ n sc x body σ' (ds.drop i) out) ?_ (ds.length + 1)
      ⟨hb, tkb, 0, σ, rfl, Nat.zero_le _, rfl, it.start, fun _ _ _ _ e => e, k0.trans kb, ha.keeps kb, fr.keeps kb, sees.keeps kb, fun _ _ _ e => e, hl⟩
    rintro k s' ⟨H, tk, i, σ', rfl, hi, rfl, hst, hkeep, kh, hav, frH, seesH, seqK, hcl⟩
    have toS : ∀ H' : Heap, (∀ b o, b ≠ I → ¬ Mut env b → hb.get? b = some o → H'.get? b = some o) → KpM (Mut env) s.heap H' := fun H' k b o hm e => k b o (fun q => by rw [q, hI] at e; cases e) hm (kb b o e)
    by_cases hlt : i < ds.length
    · refine it.walk.item i _ _ _ hlt hst fun v H1 tk1 hPv hst1 hk1 => ?_
      have k1 : KpM (fun b => b = I) H H1 := fun b o hb' e' => hk1 b o (by simpa using hb') e'
      have nsq := nsqI i H hst
      have hav1 := k1.av nsq hav
      have fr1 : Frm h₀ H1 env := ⟨let ⟨m, hn⟩ := frH.ns; ⟨m, hn.at' fun o e => k1 _ o (fun q => hIM (.inl q.symm)) e⟩, frH.aboveL, fun y c hc => let ⟨v, o, e, hd⟩ := frH.cell y c hc; ⟨v, o, k1 _ _ (fun q => hIM (.inr ⟨y, q ▸ hc⟩)) e, hd⟩, frH.apart, frH.aboveC, frH.has⟩
      have kseq1 := k1.seq nsq av
      have sees1 : Sees H1 av env σ' := fun y e hy => by
        obtain ⟨v', rv, ⟨k', m', hn', em⟩ | ⟨k', c', ec, o, eo, hd⟩⟩ := seesH y e hy
        · exact ⟨v', rv.mono kseq1, .inl ⟨k', m', hn'.at' fun o e => k1 _ o (fun q => hIM (.inl q.symm)) e, em⟩⟩
        · exact ⟨v', rv.mono kseq1, .inr ⟨k', c', ec, o, k1 _ _ (fun q => hIM (.inr ⟨y, q ▸ ec⟩)) eo, hd⟩⟩
      have rv : Rep H1 av ds[i] v := (it.rep i v _ hPv (List.getElem?_eq_getElem hlt)).mono fun a o na hs e => ⟨k1 _ _ (fun q => by
        subst q; exact nsqI 0 hb it.start _ _ rfl e hs) (seqK a o hs e), na⟩
      have hd : ds.drop i = ds[i] :: ds.drop (i + 1) := List.drop_eq_getElem_cons hlt
      rw [hd] at hcl
      refine wpAny_assign_Name (store_name he hk hx hav1 fr1 sees1 rv fun H2 tk2 k2 fr2 sees2 => ?_)
      have hI0 : ∀ b o, h₀.get? b = some o → b ≠ I := fun b o e q => by rw [q] at e; have e2 := k0 _ _ e; rw [hI] at e2; cases e2
      have kh1 : Kp h₀ H1 := fun b o e => k1 b o (hI0 b o e) (kh b o e)
      have kh2 : Kp h₀ H2 := fr1.kp k2 kh1
      have hav2 := k2.av fr1.noSeq hav1
      have fpM : ∀ b ∈ fp, ¬ Mut env b := fun b hbf hm => by
        rcases it.seqs b hbf with e | ⟨o, e, hs⟩
        · exact hIM (e ▸ hm)
        · obtain ⟨o', e'⟩ := mutOld b hm
          have e2 := kb _ _ e'
          rw [e] at e2; cases e2
          exact fr.noSeq b _ hm e' hs
      have st2 : St (i + 1) H2 := it.walk.frame _ _ _ hst1 fun b hbf o e => k2 b o (fpM b hbf) e
      have keep2 : ∀ b o, b ≠ I → ¬ Mut env b → hb.get? b = some o → H2.get? b = some o := fun b o h1 h2 e => k2 b o h2 (k1 b o h1 (hkeep b o h1 h2 e))
      have seqM : ∀ a o, isSeq o → hb.get? a = some o → a ≠ I ∧ ¬ Mut env a := fun a o hs e => ⟨fun q => by subst q; exact nsqI 0 hb it.start _ _ rfl e hs, fun hm => by
        obtain ⟨o', e'⟩ := mutOld a hm
        have e2 := kb _ _ e'
        rw [e] at e2; cases e2
        exact fr.noSeq a _ hm e' hs⟩
      generalize hG : List.drop (i + 1) ds = rest at hcl
      cases hcl with
      | cons hex hcl' =>
        refine hex env he A _ av _ _ rm kh2 hav2 fr2 sees2 fun f H3 tk3 k3 fr3 o3 => ?_
        obtain ⟨rfl, sees3⟩ := o3
        subst hG
        have keep3 : ∀ b o, b ≠ I → ¬ Mut env b → hb.get? b = some o → H3.get? b = some o := fun b o h1 h2 e => k3 b o h2 (keep2 b o h1 h2 e)
        exact ⟨ds.length + 1 - (i + 1), by omega, H3, tk3, i + 1, _, rfl, hlt, rfl, it.walk.frame _ _ _ st2 fun b hbf o e => k3 b o (fpM b hbf) e, keep3, fr2.kp k3 kh2, k3.av fr2.noSeq hav2, fr3, sees3,
          fun a o hs e => keep3 a o (seqM a o hs e).1 (seqM a o hs e).2 e, hcl'⟩
      | ret hex =>
        refine hex env he A _ av _ _ rm kh2 hav2 fr2 sees2 fun f H3 tk3 k3 fr3 o3 => ?_
        obtain ⟨v', rfl, r3⟩ := o3
        exact q _ H3 tk3 (toS _ fun b o h1 h2 e => k3 b o h2 (keep2 b o h1 h2 e)) fr3 ⟨v', rfl, r3⟩
    · obtain rfl : i = ds.length := Nat.le_antisymm hi (Nat.not_lt.mp hlt)
      rw [List.drop_length] at hcl
      cases hcl
      refine it.walk.done _ _ _ hst fun H1 tk1 hk1 => ?_
      have k1 : KpM (fun b => b = I) H H1 := fun b o hb' e' => hk1 b o (by simpa using hb') e'
      have nsq := nsqI _ H hst
      have fr1 : Frm h₀ H1 env := ⟨let ⟨m, hn⟩ := frH.ns; ⟨m, hn.at' fun o e => k1 _ o (fun q => hIM (.inl q.symm)) e⟩, frH.aboveL, fun y c hc => let ⟨v, o, e, hd⟩ := frH.cell y c hc; ⟨v, o, k1 _ _ (fun q => hIM (.inr ⟨y, q ▸ hc⟩)) e, hd⟩, frH.apart, frH.aboveC, frH.has⟩
      have kseq1 := k1.seq nsq av
      have sees1 : Sees H1 av env σ' := fun y e hy => by
        obtain ⟨v', rv, ⟨k', m', hn', em⟩ | ⟨k', c', ec, o, eo, hd⟩⟩ := seesH y e hy
        · exact ⟨v', rv.mono kseq1, .inl ⟨k', m', hn'.at' fun o e => k1 _ o (fun q => hIM (.inl q.symm)) e, em⟩⟩
        · exact ⟨v', rv.mono kseq1, .inr ⟨k', c', ec, o, k1 _ _ (fun q => hIM (.inr ⟨y, q ▸ ec⟩)) eo, hd⟩⟩
      exact wpAny_execs_nil (q _ H1 tk1 (toS _ fun b o h1 h2 e => k1 b o h1 (hkeep b o h1 h2 e)) fr1 ⟨rfl, sees1⟩)

/-- a def by its body -/
structure DefAt (K : Frag) (f : Addr) (params : List Str) (body : List Stmt) (sc : Scope) : Prop where
  at_ : ∃ o fd, K.lookup f = some o ∧ o.data = .func fd ∧ fd.body = .stmts body ∧ fd.scope = sc ∧ fd.closure = [] ∧ fd.globals = mainGlobals ∧ fd.builtins = builtinsNs ∧
    (∃ c oc vs t, fd.code = .ref c ∧ K.lookup c = some oc ∧ oc.data = .fields vs ∧ vs[1]? = some (.str fd.qualname t)) ∧
    ∀ vals : List Value, vals.length = params.length → bindArgs fd ⟨vals, []⟩ = pure (params.zip vals)

theorem zip_binds {h : Heap} {av : Addr → Prop} : ∀ {ps : List Str} {ds : List D} {vs : List Value}, RepL h av ds vs → ∀ {x : Str} {d : D}, (ps.zip ds).reverse.lookup x = some d → ∃ v, (ps.zip vs).reverse.lookup x = some v ∧ Rep h av d v
  | [], _, _, _, _, _, h => by simp at h
  | _ :: _, [], _, _, _, _, h => by simp at h
  | p :: ps, d' :: ds, _, r, x, d, h => by
    obtain ⟨v, vs, rfl, r1, r2⟩ := r
    rw [List.zip_cons_cons, List.reverse_cons, List.lookup_append] at h ⊢
    cases hq : (ps.zip ds).reverse.lookup x with
    | some d2 =>
      rw [hq] at h
      obtain rfl : d2 = d := by simpa using h
      obtain ⟨v2, e2, r3⟩ := zip_binds r2 hq
      exact ⟨v2, by rw [e2]; rfl, r3⟩
    | none =>
      rw [hq, Option.none_or] at h
      have hn : (ps.zip vs).reverse.lookup x = none := by
        have hl := r2.length
        have e1 : ∀ (ps : List Str) (ds : List D) (vs : List Value), vs.length = ds.length → (ps.zip ds).reverse.lookup x = none → (ps.zip vs).reverse.lookup x = none := by
          intro ps ds vs hl h
          rw [List.lookup_eq_none_iff] at h ⊢
          intro p hp
          rw [List.mem_reverse] at hp
          obtain ⟨i, hi, e⟩ := List.mem_iff_getElem.mp hp
          have hi' : i < (ps.zip ds).length := by simpa [List.length_zip, hl] using hi
          have := h ((ps.zip ds)[i]) (by rw [List.mem_reverse]; exact List.getElem_mem hi')
          subst e
          simpa using this
        exact e1 ps ds vs hl hq
      rw [hn, Option.none_or]
      rw [List.lookup_cons] at h ⊢
      cases hx : x == p with
      | true => rw [hx] at h; cases h; exact ⟨v, rfl, r1⟩
      | false => rw [hx] at h; simp at h

theorem bindL_at {kind : Str → Option NameKind} {x : Str} (hk : kind x = some .local) : ∀ (bs : List (Str × Value)) (m : Str → Option Value), bindL kind bs m x = (bs.reverse.lookup x).or (m x)
  | [], m => by simp [bindL]
  | (y, v) :: r, m => by
    unfold bindL
    by_cases hy : kind y = some .local
    · rw [if_pos hy, bindL_at hk r, List.reverse_cons, List.lookup_append, Option.or_assoc]
      congr 1
      rw [List.lookup_cons]
      by_cases e : x = y
      · subst e; simp
      · simp [e, beq_eq_false_iff_ne.mpr e]
    · rw [if_neg hy, bindL_at hk r, List.reverse_cons, List.lookup_append, Option.or_assoc]
      congr 1
      rw [List.lookup_cons]
      by_cases e : x = y
      · subst e; exact absurd hk hy
      · simp [beq_eq_false_iff_ne.mpr e]
theorem bindC_at {kind : Str → Option NameKind} {x : Str} (hk : kind x = some .cell) : ∀ (bs : List (Str × Value)) (m : Str → Option Value), bindC kind bs m x = (bs.reverse.lookup x).or (m x)
  | [], m => by simp [bindC]
  | (y, v) :: r, m => by
    unfold bindC
    by_cases hy : kind y = some .local
    · rw [if_pos hy, bindC_at hk r, List.reverse_cons, List.lookup_append, Option.or_assoc]
      congr 1
      rw [List.lookup_cons]
      by_cases e : x = y
      · subst e; rw [hk] at hy; cases hy
      · simp [beq_eq_false_iff_ne.mpr e]
    · rw [if_neg hy, bindC_at hk r, List.reverse_cons, List.lookup_append, Option.or_assoc]
      congr 1
      rw [List.lookup_cons]
      by_cases e : x = y
      · subst e; simp
      · simp [e, beq_eq_false_iff_ne.mpr e]
end
end Mine
end

section
open PySem PySem.W PyProof.Rows PySem.Calls PySem.Spec
set_option Elab.async false
set_option linter.unusedVariables false
namespace Mine
section
variable {prog : Program} {w : World} {K : Frag} {h₀ : Heap} {n : Nat} {sc : Scope} {σ : Sto}

theorem fn_def (C : Cx K h₀) {f : Addr} {params : List Str} {body : List Stmt} {ds : List D} {d : D} (hd : DefAt K f params body sc) (hp : ∀ x ∈ params, sc.names.lookup x = some .local ∨ sc.names.lookup x = some .cell)
    (hl : ds.length = params.length) (hσ : σ = (params.zip ds).reverse) (hex : Ex prog w h₀ n sc σ body (.ret d)) (hk : sc.kind = .function := by rfl) (hco : sc.isCoroutine = false := by rfl) (hgen : sc.isGenerator = false := by rfl) :
    Fn prog w h₀ (n + 1) (.ref f) ds d := fun A s av vs Q E rm k0 ha r q => by
  subst hσ
  obtain ⟨o, fd, ho, hdata, hbody, hsc, hclo, hglo, hbui, ⟨c, oc, cvs, ct, hc1, hc2, hc3, hc4⟩, hbind⟩ := hd.at_
  have hvl : vs.length = params.length := by rw [r.length, hl]
  have kin := C.k.keeps k0
  subst hsc
  refine wpAny_call (codeAny_call_cells (body := body) (by have := rm.2.1; omega) (kin _ _ ho) hdata (C.nolimit.keeps k0) ⟨c, oc, cvs, ct, hc1, kin _ _ hc2, hc3, hc4⟩ hbody (hbind vs hvl) hclo (fun x hx => ?_) (fun s₁ x => ?_) hco hgen hk)
  · have hxp : x.1 ∈ params := by
      obtain ⟨a, b⟩ := x
      exact (List.of_mem_zip hx).1
    rcases hp _ hxp with q | q
    · exact .inl q
    · exact .inr ⟨q, cellsFrom_some _ _ _ (.inl q)⟩
  · obtain ⟨h1, tk1, rfl⟩ := x.toInCall.same
    have k1 : Kp s.heap h1 := x.toInCall.keep
    have he : EnvFor fd.scope (callEnvC fd s.heap.objs.size f) := ⟨rfl, hglo, hbui⟩
    have freshL : s.heap.get? s.heap.objs.size = none := Heap.get?_none_of_le (Nat.le_refl _)
    have freshC : ∀ y c, (callEnvC fd s.heap.objs.size f).cells.lookup y = some c → s.heap.get? c = none := fun y c hc => Heap.get?_none_of_le (Nat.le_of_lt (x.above y c (PySem.mem_of_lookup hc)))
    have fr : Frm h₀ h1 (callEnvC fd s.heap.objs.size f) := ⟨⟨_, x.toInCall.ns⟩, k0.fresh freshL, fun y c hc => ⟨_, x.cell y c hc⟩, x.apart, fun y c hc => k0.fresh (freshC y c hc), fun y hy => by
      have := cellsFrom_some (x := y) fd.scope.names (s.heap.objs.size + 1) [] (.inl hy)
      exact Option.isSome_iff_exists.mp this⟩
    have sees : Sees h1 av (callEnvC fd s.heap.objs.size f) (params.zip ds).reverse := fun y e hy => by
      obtain ⟨v, ev, rv⟩ := zip_binds r hy
      have hyp : y ∈ params := by
        have := PySem.mem_of_lookup hy
        rw [List.mem_reverse] at this
        exact (List.of_mem_zip this).1
      refine ⟨v, rv.mono (k1.seq av), ?_⟩
      rcases hp y hyp with q' | q'
      · refine .inl ⟨by rw [he.kind]; exact q', _, x.toInCall.ns, ?_⟩
        rw [bindL_at (by rw [he.kind]; exact q'), ev]; rfl
      · obtain ⟨c, hc⟩ := fr.has y (by rw [he.kind]; exact q')
        have hcell := x.cell y c hc
        rw [bindC_at (by rw [he.kind]; exact q'), ev] at hcell
        exact .inr ⟨.inl (by rw [he.kind]; exact q'), c, hc, hcell⟩
    refine hex _ he _ _ av _ _ ⟨rm.1, by show A.depth + 1 + n < _; have := rm.2.1; omega, by show A.units + 3 + 20 * n + 100 < _; have := rm.2.2; omega⟩ (k0.trans k1) (ha.keeps k1) fr sees fun fl h2 tk2 k2 fr2 o2 => ?_
    obtain ⟨v, rfl, r2⟩ := o2
    refine q v h2 tk2 (fun b o e => k2 b o (fun hm => ?_) (k1 b o e)) r2
    rcases hm with e' | ⟨y, hy⟩
    · have e2 : b = s.heap.objs.size := e'
      rw [e2, freshL] at e; cases e
    · rw [freshC y b hy] at e; cases e
end
end Mine
end

section
open PySem PySem.W PyProof.Rows PySem.Calls PySem.Spec
set_option Elab.async false
set_option linter.unusedVariables false
namespace Mine
section
variable {prog : Program} {w : World} {K : Frag} {h₀ : Heap} {n : Nat} {sc : Scope} {σ : Sto}

theorem execs_append (env : Env) : ∀ (a b : List Stmt), execs (a ++ b) env = (execs a env >>= fun f => match f with | .next => execs b env | f => pure f)
  | [], b => by rw [execs_nil, pure_bind]; rfl
  | st :: a, b => by
    rw [List.cons_append, execs_cons, execs_cons, bind_assoc]
    congr 1
    funext f
    cases f with
    | next => exact execs_append env a b
    | _ => rw [pure_bind]
theorem execs_If (env : Env) (test : Expr) (body orelse : List Stmt) (pos : Pos) (rest : List Stmt) :
    execs (.If test body orelse pos :: rest) env = (do standAt pos; let b ← isTrue test env (eval test env); if b = true then execs (body ++ rest) env else execs (orelse ++ rest) env) := by
  rw [execs_cons, exec_If, bind_assoc]
  congr 1
  funext _
  rw [bind_assoc]
  congr 1
  funext b
  cases b
  · simp only [Bool.false_eq_true, if_false]; rw [execs_append]; rfl
  · simp only [if_true]; rw [execs_append]; rfl

theorem ex_if {test : Expr} {body orelse rest : List Stmt} {pos : Pos} {b : Bool} {out : Out} (h : Tr prog w h₀ n sc σ test b) (h1 : b = true → Ex prog w h₀ n sc σ (body ++ rest) out) (h2 : b = false → Ex prog w h₀ n sc σ (orelse ++ rest) out) :
    Ex prog w h₀ n sc σ (.If test body orelse pos :: rest) out :=
  fun env he A s av Q E rm k0 ha fr sees q => by
    rw [execs_If]
    refine wpAny_bind (wpAny_standAt (wpAny_bind (h env he A s av _ _ rm k0 ha sees fun h' t1 k1 => ?_)))
    cases b
    · simp only [Bool.false_eq_true, if_false]
      exact h2 rfl env he A _ av _ _ rm (k0.trans k1) (ha.keeps k1) (fr.keeps k1) (sees.keeps k1) fun f h2 t2 k2 fr2 o2 => q f h2 t2 ((k1.m _).trans k2) fr2 o2
    · simp only [if_true]
      exact h1 rfl env he A _ av _ _ rm (k0.trans k1) (ha.keeps k1) (fr.keeps k1) (sees.keeps k1) fun f h2 t2 k2 fr2 o2 => q f h2 t2 ((k1.m _).trans k2) fr2 o2

theorem lk_hit {x : Str} {d : D} : List.lookup x ((x, d) :: σ) = some d := by rw [List.lookup_cons]; simp
theorem lk_skip {x y : Str} {d e : D} (h : (x == y) = false) (hr : List.lookup x σ = some d) : List.lookup x ((y, e) :: σ) = some d := by rw [List.lookup_cons, h]; exact hr
theorem src_cast {iter : Expr} {ds ds' : List D} (h : Src prog w h₀ n sc σ iter ds) (e : ds = ds') : Src prog w h₀ n sc σ iter ds' := e ▸ h
theorem tr_cast {e : Expr} {b b' : Bool} (h : Tr prog w h₀ n sc σ e b) (e' : b = b') : Tr prog w h₀ n sc σ e b' := e' ▸ h
theorem ex_ret_cast {e : Expr} {pos : Pos} {rest : List Stmt} {d d' : D} (h : Ev prog w h₀ n sc σ e d) (e' : d = d') : Ex prog w h₀ n sc σ (.Return (some e) pos :: rest) (.ret d') := e' ▸ ex_ret (ex1_return h)
theorem ex_assign {x : Str} {p pos : Pos} {value : Expr} {d : D} {rest : List Stmt} {out : Out} (h : Ev prog w h₀ n sc σ value d) (hx : sc.names.lookup x = some .local ∨ sc.names.lookup x = some .cell)
    (hs : ∀ env, EnvFor sc env → swapsWith value (some (.Name x p)) pos.line env = pure false) (hr : Ex prog w h₀ n sc ((x, d) :: σ) rest out) (hk : sc.kind = .function := by rfl) : Ex prog w h₀ n sc σ (.Assign [.Name x p] value pos :: rest) out :=
  ex_cons (ex1_assign h hx hs hk) hr
theorem ex_unpack {elts : List Expr} {k : Nat} {tpos pos : Pos} {value : Expr} {d : D} {bs : Sto} {rest : List Stmt} {out : Out} (h : Ev prog w h₀ n sc σ value d) (hasg : Asg prog w sc (.Tuple elts k tpos) d bs) (hr : Ex prog w h₀ n sc (bs ++ σ) rest out)
    (hs : ∀ env, swapsWithSole [.Tuple elts k tpos] value pos.line env = pure false := by intro _; rfl) (hw : ∀ env, swappedStores [.Tuple elts k tpos] value env = pure none := by intro _; rfl) :
    Ex prog w h₀ n sc σ (.Assign [.Tuple elts k tpos] value pos :: rest) out := ex_cons (ex1_unpack h hasg hs hw) hr
theorem ex_cast {sts : List Stmt} {out : Out} {σ' : Sto} (h : Ex prog w h₀ n sc σ' sts out) (e : σ = σ') : Ex prog w h₀ n sc σ sts out := e ▸ h
theorem bind3 {α : Type} {P : List α → Prop} (h : ∀ a b c, P [a, b, c]) : ∀ l : List α, l.length = 3 → P l
  | [a, b, c], _ => h a b c
theorem bind2 {α : Type} {P : List α → Prop} (h : ∀ a b, P [a, b]) : ∀ l : List α, l.length = 2 → P l
  | [a, b], _ => h a b
theorem bind1 {α : Type} {P : List α → Prop} (h : ∀ a, P [a]) : ∀ l : List α, l.length = 1 → P l
  | [a], _ => h a
end
end Mine
end

section
open PySem PySem.W PyProof.Rows PySem.Calls PySem.Spec
set_option Elab.async false
namespace Mine
set_option maxRecDepth 100000 in
set_option maxHeartbeats 8000000 in
open_top hd for PySem.Challenge.rw_pu0034_01
end Mine
end

section
open PySem PySem.W PyProof.Rows PySem.Calls PySem.Spec
set_option Elab.async false
set_option linter.unusedVariables false
namespace Mine

/-- a frame without cells; the local x holds the growing list at L -/
structure Grow (h : Heap) (av : Addr → Prop) (env : Env) (x : Str) (L : Addr) (σ : Sto) (acc : List D) : Prop where
  avin : AvIn av h
  own : av L
  loc : ∃ m, h.Ns env.locals m ∧ m x = some (.ref L) ∧ ∀ y d, σ.lookup y = some d → env.kindOf y = some .local ∧ ∃ v, m y = some v ∧ Rep h av d v
  lst : ∃ vs k, h.get? L = some (lstO vs k) ∧ RepL h av acc vs

theorem Grow.sees {h : Heap} {av : Addr → Prop} {env : Env} {x : Str} {L : Addr} {σ : Sto} {acc : List D} (g : Grow h av env x L σ acc) : Sees h av env σ := fun y d e => by
  obtain ⟨m, hn, _, hs⟩ := g.loc
  obtain ⟨hk, v, ev, rv⟩ := hs y d e
  exact ⟨v, rv, .inl ⟨hk, m, hn, ev⟩⟩
theorem Grow.keeps {h h' : Heap} {av : Addr → Prop} {env : Env} {x : Str} {L : Addr} {σ : Sto} {acc : List D} (g : Grow h av env x L σ acc) (k : Kp h h') : Grow h' av env x L σ acc :=
  ⟨g.avin.keeps k, g.own, let ⟨m, hn, hx, hs⟩ := g.loc; ⟨m, hn.keeps k, hx, fun y d e => let ⟨hk, v, ev, rv⟩ := hs y d e; ⟨hk, v, ev, rv.mono (k.seq av)⟩⟩, let ⟨vs, q, e, r⟩ := g.lst; ⟨vs, q, k _ _ e, r.mono (k.seq av)⟩⟩

section
variable (prog : Program) (w : World) (h₀ : Heap)
def XA (n : Nat) (sc : Scope) (x : Str) (σ : Sto) (acc : List D) (sts : List Stmt) (σ' : Sto) (acc' : List D) : Prop :=
  ∀ (env : Env), EnvFor sc env → ∀ (A : Around) (s : Shared) (av : Addr → Prop) (L : Addr) (Q : Flow → Shared → Prop) (E : Value → Shared → Prop),
    Room n A → Kp h₀ s.heap → h₀.get? L = none → h₀.get? env.locals = none → Grow s.heap av env x L σ acc →
    (∀ h' tk, KpM (fun b => b = env.locals ∨ b = L) s.heap h' → Grow h' av env x L σ' acc' → Q .next { s with heap := h', toks := tk }) →
    wpAny (model prog w) A (execs sts env) Q E s
end

section
variable {prog : Program} {w : World} {K : Frag} {h₀ : Heap} {n : Nat} {sc : Scope} {σ : Sto} {x : Str}

theorem kpm_base {h h' : Heap} {l L : Addr} (k : KpM (fun b => b = l ∨ b = L) h h') (k0 : Kp h₀ h) (h1 : h₀.get? L = none) (h2 : h₀.get? l = none) : Kp h₀ h' := fun b o e => k b o (fun hm => by
  rcases hm with rfl | rfl
  · rw [h2] at e; cases e
  · rw [h1] at e; cases e) (k0 b o e)

theorem xa_nil {acc : List D} : XA prog w h₀ n sc x σ acc [] σ acc := fun env he A s av L Q E rm k0 hL hl g q => wpAny_execs_nil (q s.heap s.toks (KpM.refl _ _) g)

theorem xa_assign {y : Str} {p pos : Pos} {value : Expr} {d : D} {acc acc' : List D} {rest : List Stmt} {σ' : Sto} (h : Ev prog w h₀ n sc σ value d) (hy : sc.names.lookup y = some .local) (hne : x ≠ y)
    (hs : ∀ env, EnvFor sc env → swapsWith value (some (.Name y p)) pos.line env = pure false) (hr : XA prog w h₀ n sc x ((y, d) :: σ) acc rest σ' acc') (hk : sc.kind = .function := by rfl) :
    XA prog w h₀ n sc x σ acc (.Assign [.Name y p] value pos :: rest) σ' acc' :=
  fun env he A s av L Q E rm k0 hL hl g q => wpAny_execs_cons (wpAny_Assign_Name (h env he A s av _ _ rm k0 g.avin g.sees fun v h1 t1 k1 r1 => by
    have g1 := g.keeps k1
    obtain ⟨m, hn, hx, hs1⟩ := g1.loc
    refine wpAny_storeName_local (by rw [he.kind]; exact hy) hn (fun h2 hn2 hs2 => ?_) (fnScope he hk)
    have k2 := SameBut.kpm hs2
    have nsq : NoSeq (fun b => b = env.locals) h1 := fun a o e eo => by subst e; exact ns_noSeq hn o eo
    have kseq := k2.seq nsq av
    have hLl : L ≠ env.locals := fun e => by
      obtain ⟨vs, k, e', _⟩ := g1.lst
      exact nsq L _ e e' ⟨_, _, rfl⟩
    have kk : KpM (fun b => b = env.locals ∨ b = L) s.heap h2 := fun b o hb e => k2 b o (fun q => hb (.inl q)) (k1 b o e)
    refine hr env he A _ av L _ _ rm (kpm_base kk k0 hL hl) hL hl ⟨k2.av nsq g1.avin, g.own, ⟨_, hn2, by rw [if_neg hne]; exact hx, fun z d' hz => ?_⟩, ?_⟩ fun h3 t3 k3 g3 => q h3 t3 (kk.trans k3) g3
    · rw [List.lookup_cons] at hz
      cases hb : z == y with
      | true =>
        rw [hb] at hz; cases hz
        have e' := beq_iff_eq.mp hb; subst e'
        exact ⟨by rw [he.kind]; exact hy, v, by simp, r1.mono kseq⟩
      | false =>
        rw [hb] at hz
        obtain ⟨hk', v', ev, rv⟩ := hs1 z d' hz
        exact ⟨hk', v', by rw [if_neg (beq_eq_false_iff_ne.mp hb)]; exact ev, rv.mono kseq⟩
    · obtain ⟨vs, k, e', rl⟩ := g1.lst
      exact ⟨vs, k, k2 _ _ hLl e', rl.mono kseq⟩) (hs env he))

theorem xa_append {p apos cpos pos : Pos} {e : Expr} {d : D} {acc acc' : List D} {rest : List Stmt} {σ' : Sto} (h : Ev prog w h₀ n sc σ e d) (hxk : sc.names.lookup x = some .local)
    (hr : XA prog w h₀ n sc x σ (acc ++ [d]) rest σ' acc') (hsz : acc.length ≤ 1000) (hk : sc.kind = .function := by rfl) (hd : (x == ("__debug__" : Str)) = false := by decide +kernel)
    (hi : ∀ env, EnvFor sc env → interactive env = false) (hsw : ∀ env, EnvFor sc env → swapsWith (.Call (.Attribute (.Name x p) "append" apos) [e] [] cpos) none pos.line env = pure false)
    (hline : (apos.endLine == cpos.line) = true := by rfl)
    (hs : ∀ env, starEach [e] env = [(false, eval e env)] := by intro _; rfl) (hb : ∀ env, attributeBase (.Name x p) "append" env (eval (.Name x p) env) = eval (.Name x p) env := by intro _; rfl) :
    XA prog w h₀ n sc x σ acc (.Expr (.Call (.Attribute (.Name x p) "append" apos) [e] [] cpos) pos :: rest) σ' acc' :=
  fun env he A s av L Q E rm k0 hL hl g q => wpAny_execs_cons (wpAny_Expr_any (Call_method1 (hb env) (hs env) hline (by
    obtain ⟨m, hn, hx, hs1⟩ := g.loc
    have hk' : env.scope.kind = .function := by rw [he.scope]; exact hk
    refine wpAny_Name (wpAny_loadName_local hk' (by rw [he.kind]; exact hxk) hn hx ?_) hd
    obtain ⟨vs, k, e', rl⟩ := g.lst
    refine ⟨"list", "list.append", F.plainAttrs_list, F.slot_list_append, F.type_list_append, ⟨_, e', rfl⟩, fun b eb => by cases eb; exact ⟨_, e', rfl⟩, callWith_builtin rfl (evalArgs_plain (spliced_cons (h env he A s av _ _ rm k0 g.avin g.sees fun u h1 t1 k1 r1 => spliced_nil ?_)))⟩
    have g1 := g.keeps k1
    have hlen := rl.length
    refine append_at (hsz := by rw [List.size_toArray]; unfold sizeLine; omega) (k1 _ _ e') fun h2 hs2 e2 => ?_
    have k2 := SameBut.kpm hs2
    have kseq : KeepsSeq av av h1 h2 := fun a o na _ e => ⟨k2 a o (fun q => na (q ▸ g.own)) e, na⟩
    have kk : KpM (fun b => b = env.locals ∨ b = L) s.heap h2 := fun b o hb e => k2 b o (fun q => hb (.inr q)) (k1 b o e)
    have e2' : h2.get? L = some (lstO (vs ++ [u]) (k + 1)) := by rw [e2]; simp [List.push_toArray]
    obtain ⟨m', hn', hx', hs1'⟩ := g1.loc
    have hLl : env.locals ≠ L := fun e => ns_noSeq hn' _ (e ▸ k1 _ _ e') ⟨_, _, rfl⟩
    refine hr env he A _ av L _ _ rm (kpm_base kk k0 hL hl) hL hl ⟨fun a ha => ?_, g.own, ⟨m', hn'.sameBut hs2 hLl, hx', fun z d' hz => ?_⟩, ⟨_, _, e2', ?_⟩⟩ fun h3 t3 k3 g3 => q h3 t3 (kk.trans k3) g3
    · by_cases haL : a = L
      · subst haL; exact ⟨_, e2', _, _, rfl⟩
      · obtain ⟨o, eo, hq⟩ := g1.avin a ha
        exact ⟨o, k2 _ _ haL eo, hq⟩
    · obtain ⟨hk', v', ev, rv⟩ := hs1' z d' hz
      exact ⟨hk', v', ev, rv.mono kseq⟩
    · exact ((rl.mono (k1.seq av)).mono kseq).append (RepL.one (r1.mono kseq)))) (hi env he) (hsw env he))

/-- the turns of a while -/
inductive WhL (prog : Program) (w : World) (h₀ : Heap) (n : Nat) (sc : Scope) (x : Str) (test : Expr) (body : List Stmt) : Nat → Sto → List D → Sto → List D → Prop
  | done {σ : Sto} {acc : List D} {k : Nat} : Tr prog w h₀ n sc σ test false → WhL prog w h₀ n sc x test body k σ acc σ acc
  | turn {σ σ₁ σ' : Sto} {acc acc₁ acc' : List D} {k : Nat} : Tr prog w h₀ n sc σ test true → XA prog w h₀ n sc x σ acc body σ₁ acc₁ → WhL prog w h₀ n sc x test body k σ₁ acc₁ σ' acc' → WhL prog w h₀ n sc x test body (k + 1) σ acc σ' acc'

theorem xa_while {test : Expr} {body rest : List Stmt} {pos : Pos} {k : Nat} {acc acc₁ acc' : List D} {σ₁ σ' : Sto} (h : WhL prog w h₀ n sc x test body k σ acc σ₁ acc₁) (hr : XA prog w h₀ n sc x σ₁ acc₁ rest σ' acc') :
    XA prog w h₀ n sc x σ acc (.While test body [] pos :: rest) σ' acc' :=
  fun env he A s av L Q E rm k0 hL hl g q => wpAny_execs_cons (wpAny_While (codeAny_whileLoop (fun k s' => ∃ H tk σ₂ acc₂, s' = { s with heap := H, toks := tk } ∧ KpM (fun b => b = env.locals ∨ b = L) s.heap H ∧ Grow H av env x L σ₂ acc₂ ∧ WhL prog w h₀ n sc x test body k σ₂ acc₂ σ₁ acc₁) (by
    rintro k s' ⟨H, tk, σ₂, acc₂, rfl, kH, gH, hw⟩
    have kb := kpm_base kH k0 hL hl
    cases hw with
    | done ht =>
      refine ht env he A _ av _ _ rm kb gH.avin gH.sees fun h1 t1 k1 => ?_
      simp only [Bool.false_eq_true, if_false]
      refine wpAny_execs_nil ?_
      have kk : KpM (fun b => b = env.locals ∨ b = L) s.heap h1 := kH.trans (k1.m _)
      exact hr env he A _ av L _ _ rm (kpm_base kk k0 hL hl) hL hl (gH.keeps k1) fun h3 t3 k3 g3 => q h3 t3 (kk.trans k3) g3
    | turn ht hb hw' =>
      refine ht env he A _ av _ _ rm kb gH.avin gH.sees fun h1 t1 k1 => ?_
      simp only [if_true]
      have kk : KpM (fun b => b = env.locals ∨ b = L) s.heap h1 := kH.trans (k1.m _)
      exact hb env he A _ av L _ _ rm (kpm_base kk k0 hL hl) hL hl (gH.keeps k1) fun h3 t3 k3 g3 => ⟨_, Nat.lt_succ_self _, h3, t3, _, _, rfl, kk.trans k3, g3, hw'⟩) k ⟨s.heap, s.toks, σ, acc, rfl, KpM.refl _ _, g, h⟩))

/-- the whole body: x = [e]; sts; return x -/
theorem ex_grow {p p2 p3 p4 pos : Pos} {es : List Expr} {ds acc : List D} {sts : List Stmt} {σ' : Sto} (h0 : EvL prog w h₀ n sc σ es ds) (hlen : ds.length ≤ 1000) (hx : sc.names.lookup x = some .local) (hnx : σ.lookup x = none)
    (hloc : ∀ y d, σ.lookup y = some d → sc.names.lookup y = some .local) (hs : ∀ env, EnvFor sc env → swapsWith (.List es p2) (some (.Name x p)) pos.line env = pure false)
    (h : XA prog w h₀ n sc x σ ds sts σ' acc) (rest : List Stmt) (hk : sc.kind = .function := by rfl) (hd : (x == ("__debug__" : Str)) = false := by decide +kernel) :
    Ex prog w h₀ n sc σ (.Assign [.Name x p] (.List es p2) pos :: (sts ++ .Return (some (.Name x p3)) p4 :: rest)) (.ret (.lst acc)) :=
  fun env he A s av Q E rm k0 ha fr sees q => wpAny_execs_cons (wpAny_Assign_Name (wpAny_List (h0 env he A s av _ _ _ rm k0 ha sees fun vs h1 t1 k1 r1 => ⟨by rw [r1.length]; unfold sizeLine; omega, by
    obtain ⟨m, hn⟩ := (fr.keeps k1).ns
    have hn1 : (h1.push { cls := .type "list", data := .seq vs.toArray }).Ns env.locals m := hn.keeps (Kp.push _ _)
    refine wpAny_storeName_local (by rw [he.kind]; exact hx) hn1 (fun h2 hn2 hs2 => ?_) (fnScope he hk)
    have k2 := SameBut.kpm hs2
    generalize hL : h1.objs.size = L at hs2 hn2 ⊢
    have hfresh : h1.get? L = none := by rw [← hL]; exact Heap.get?_none_of_le (Nat.le_refl _)
    have nsq : NoSeq (fun b => b = env.locals) h1 := fun a o e eo => by subst e; exact ns_noSeq hn o eo
    have hlL : L ≠ env.locals := fun e => by
      obtain ⟨o, _, _, eo, _⟩ := hn
      rw [← e, hfresh] at eo; cases eo
    have eL : h2.get? L = some (lstO vs 0) := k2 _ _ hlL (by rw [← hL]; exact Heap.get?_push_size _ rfl)
    have kold : KpM (fun b => b = env.locals) h1 h2 := fun b o hb e => k2 b o hb (Heap.get?_push_of_some _ e)
    let av' : Addr → Prop := fun a => av a ∨ a = L
    have kseq : KeepsSeq av av' h1 h2 := fun a o na hq e => ⟨kold a o (fun e' => nsq a o e' e hq) e, fun q => q.elim na fun q => by rw [q, hfresh] at e; cases e⟩
    have hav : AvIn av' h2 := fun a ha' => ha'.elim (fun ha' => let ⟨o, e, hq⟩ := (ha.keeps k1) a ha'; ⟨o, kold a o (fun e' => nsq a o e' e hq) e, hq⟩) fun e => by subst e; exact ⟨_, eL, _, _, rfl⟩
    have hL0 : h₀.get? L = none := Kp.fresh (k0.trans k1) hfresh
    have kM : KpM (Mut env) s.heap h2 := fun b o hb e => kold b o (fun q => hb (.inl q)) (k1 b o e)
    rw [execs_append]
    refine wpAny_bind (h env he A _ av' L _ _ rm (fr.kp kM k0) hL0 fr.aboveL ⟨hav, .inr rfl, ⟨_, hn2, by simp, fun y d hy => ?_⟩, ⟨vs, 0, eL, r1.mono kseq⟩⟩ fun h3 t3 k3 g3 => ?_)
    · have hyx : y ≠ x := fun e => by rw [e, hnx] at hy; cases hy
      obtain ⟨v, rv, hcase⟩ := sees y d hy
      have hyl := hloc y d hy
      rcases hcase with ⟨hk', m', hn', ev⟩ | ⟨hk', _⟩
      · refine ⟨hk', v, ?_, rv.mono (fun a o na hq e => kseq a o na hq (k1 _ _ e))⟩
        rw [if_neg hyx, ← (hn'.keeps k1).agree hn y]; exact ev
      · rw [he.kind, hyl] at hk'; rcases hk' with q | q <;> cases q
    · dsimp only
      have k3M : KpM (Mut env) s.heap h3 := fun b o hb e => k3 b o (fun q => q.elim (fun q => hb (.inl q)) fun q => by rw [q] at e; have := k1 _ _ e; rw [hfresh] at this; cases this) (kM b o hb e)
      obtain ⟨m3, hn3, hx3, _⟩ := g3.loc
      obtain ⟨vs3, k3', e3, rl3⟩ := g3.lst
      have hk' : env.scope.kind = .function := by rw [he.scope]; exact hk
      refine wpAny_execs_cons (wpAny_Return_some (wpAny_Name (wpAny_loadName_local hk' (by rw [he.kind]; exact hx) hn3 hx3 ?_) hd))
      have fr3 : Frm h₀ h3 env := ⟨⟨m3, hn3⟩, fr.aboveL, fun y c hc => by
        obtain ⟨v, o, eo, hv⟩ := fr.cell y c hc
        have hcl : c ≠ env.locals := fun e => by
          obtain ⟨m0, o', es', ep', eo', hd', _⟩ := fr.ns
          rw [e] at eo; rw [eo] at eo'; cases eo'; rw [hv] at hd'; cases hd'
        have hcL : c ≠ L := fun e => by rw [e] at eo; have := k1 _ _ eo; rw [hfresh] at this; cases this
        exact ⟨v, o, k3 _ _ (fun q => q.elim hcl hcL) (kold _ _ hcl (k1 _ _ eo)), hv⟩, fr.apart, fr.aboveC, fr.has⟩
      exact q _ h3 t3 k3M fr3 ⟨_, rfl, L, vs3, k3', rfl, (fun hq => by
        obtain ⟨o, eo, _⟩ := (ha.keeps k1) L hq
        rw [hfresh] at eo; cases eo), e3, rl3.mono fun a o na hq e => ⟨e, fun q => na (.inl q)⟩⟩⟩)) (hs env he))
end
end Mine
end

section
open PySem PySem.W PyProof.Rows PySem.Calls PySem.Spec
open PySem.Builtin.Re
set_option Elab.async false
set_option linter.unusedVariables false
set_option maxRecDepth 100000
namespace Mine

theorem plainAttrs_pat : PlainAttrs "re.Pattern" :=
  ⟨⟨"object.__getattribute__", by rw [typeLookup_type, builtinLookup_eq_fast]; kernel_rfl, by decide +kernel⟩, by rw [typeLookup_type, builtinLookup_eq_fast]; kernel_rfl⟩
theorem slot_pat_search : Slot "re.Pattern" "search" "re.Pattern.search" :=
  .of (owner := "re.Pattern") (n := "search") (by rw [typeLookup_type, builtinLookup_eq_fast]; kernel_rfl) (by decide +kernel) (by decide +kernel) (by decide +kernel)
    (by first | exact .inl (by decide +kernel) | exact .inr (by decide +kernel)) (by rw [isSubtype_type]; kernel_rfl)
theorem type_pat_search : typeOf (.builtin "re.Pattern.search") = pure (.type "method_descriptor") := by show builtinType _ = _; rw [builtinType_eq_fast]; kernel_rfl
theorem entry_pat_search : entryFor table "re.Pattern.search" = some Builtin.«re.Pattern.search» := entryFor_of_tree (by kernel_rfl)
theorem owner_pat : Manifest.owners.lookup (String.ofList ['n', 'r', 'e', 't', 't', 'a', 'P', '.', 'e', 'r'].reverse) = some Manifest.sig_re_Pattern := by kernel_rfl
theorem args_pat_search (a b : Value) : argsOk "re.Pattern.search" ⟨[a, b], []⟩ := by
  unfold argsOk; rw [signature?_of (id := "re.Pattern.search") (n := ['h', 'c', 'r', 'a', 'e', 's']) (o := ['n', 'r', 'e', 't', 't', 'a', 'P', '.', 'e', 'r']) (by kernel_rfl) owner_pat]; kernel_rfl

/-- the machine -/
theorem runFor_done {m : Sre.M} (h : m.outcome.isSome = true) : ∀ n, m.runFor n = m
  | 0 => rfl
  | n + 1 => by unfold Sre.M.runFor; rw [if_pos h]
theorem runFor_add (m : Sre.M) : ∀ a b, m.runFor (a + b) = (m.runFor a).runFor b
  | 0, b => by rw [Nat.zero_add]; rfl
  | a + 1, b => by
    rw [show a + 1 + b = (a + b) + 1 by omega]
    conv => lhs; unfold Sre.M.runFor
    conv => rhs; arg 2; unfold Sre.M.runFor
    by_cases h : m.outcome.isSome = true
    · rw [if_pos h, if_pos h, runFor_done h]
    · rw [if_neg h, if_neg h]; exact runFor_add _ a b

section
variable {prog : Program} {w : World} {K : Frag} {h₀ : Heap} {n : Nat} {sc : Scope} {σ : Sto}

theorem drive {A : Around} {E : Value → Shared → Prop} {s : Shared} {Q : Sre.M → Shared → Prop} : ∀ (turns k : Nat) (m r : Sre.M), m.runFor k = r → r.outcome.isSome = true → k ≤ 4 * turns → 0 < turns → Q r s → wpAny (model prog w) A (reDrive turns m) Q E s
  | 0, _, _, _, _, _, _, h, _ => absurd h (Nat.lt_irrefl _)
  | t + 1, k, m, r, e, ho, hk, _, q => by
    unfold reDrive
    dsimp only [reTurnSteps]
    by_cases hc : (m.runFor 4).outcome.isSome = true
    · rw [if_pos hc]
      have : m.runFor 4 = r := by
        rcases Nat.le_total k 4 with h4 | h4
        · have := runFor_add m k (4 - k)
          rw [show k + (4 - k) = 4 by omega] at this
          rw [this, e]; exact runFor_done ho _
        · have := runFor_add m 4 (k - 4)
          rw [show 4 + (k - 4) = k by omega, e] at this
          rw [this]; exact (runFor_done hc _).symm
      rw [this]; exact wpAny_pure q
    · rw [if_neg hc]
      have h4 : 4 < k := by
        rcases Nat.lt_or_ge 4 k with h | h
        · exact h
        · have := runFor_add m k (4 - k)
          rw [show k + (4 - k) = 4 by omega, e, runFor_done ho] at this
          rw [this] at hc; exact absurd ho hc
      have h5 := runFor_add m 4 (k - 4)
      rw [show 4 + (k - 4) = k by omega, e] at h5
      refine wpAny_bind (wpAny_rule (drive t (k - 4) _ r h5.symm ho (by omega) (by omega) q))

theorem rules_loop {A : Around} {E : Value → Shared → Prop} {s : Shared} {m : Sre.M} {Q : PUnit → Shared → Prop} (q : Q ⟨⟩ s) : ∀ l : List Nat,
    wpAny (model prog w) A (forIn l PUnit.unit fun i r => if m.seen.has i = true then do rule (Sre.names.getD i ""); pure (ForInStep.yield PUnit.unit) else pure (ForInStep.yield PUnit.unit)) Q E s
  | [] => by rw [List.forIn_nil]; exact wpAny_pure q
  | i :: l => by
    rw [List.forIn_cons]
    refine wpAny_bind ?_
    split
    · exact wpAny_bind (wpAny_rule (wpAny_pure (rules_loop q l)))
    · exact wpAny_pure (rules_loop q l)

theorem run_failed {A : Around} {E : Value → Shared → Prop} {s : Shared} {Q : Option Sre.M → Shared → Prop} {m r : Sre.M} {k : Nat} (e : m.runFor k = r) (ho : r.outcome = some .failed) (hk : k ≤ 2 ^ 66) (q : Q none s) : wpAny (model prog w) A (reRunToEnd m) Q E s := by
  unfold reRunToEnd
  refine wpAny_bind (drive (2 ^ 64) k m r e (by rw [ho]; rfl) (by omega) (by decide) ?_)
  refine wpAny_bind ?_
  refine wpAny_mono (rules_loop (Q := fun _ s' => s' = s) rfl _) (fun _ s' hs => ?_) fun _ _ x => x
  subst hs
  rw [ho]
  exact wpAny_pure q

/-- the pattern: a point, one or more figures, the end -/
def ptn : Array Nat := #[14, 8, 1, 2, 4294967295, 1, 1, 46, 0, 16, 46, 24, 9, 1, 4294967295, 13, 4, 8, 0, 0, 1, 6, 5, 1]
structure At (t : Array Nat) (s : Nat) (a : Option Bool) (m : Sre.M) : Prop where
  code : m.code = ptn
  text : m.text = t
  lim : m.lim = t.size
  last : m.lastStart = t.size
  out : m.outcome = none
  ans : m.answer = a
  pc : a = none → m.pc = 9 ∧ m.pos = s
  weight : m.weight ≤ 1
  frames : ∃ f : Sre.Frame, m.frames = [f] ∧ f.wait = .nextStart ∧ f.pc = 9 ∧ f.pos = s ∧ f.kept = {}

theorem digit_no {c : Nat} (hc : Sre.isDigit c = false) (seen : Sre.Seen) : ∃ seen', Sre.accepts ptn 15 c seen = .ok (false, seen') := by
  refine ⟨((seen.add 8).add (55 + 0)).add 0, ?_⟩
  show (Except.bind ((Except.ok (Sre.isDigit c)).map (· != (0 % 2 == 1))) fun b => if b = true then pure (true, (seen.add 8).add (55 + 0)) else Sre.inSet ptn c 23 19 true ((seen.add 8).add (55 + 0)) : Except String (Bool × Sre.Seen)) = _
  rw [hc]
  rfl

theorem at_step {t : Array Nat} {s : Nat} {m : Sre.M} (h : At t s none m) (hs : s ≤ t.size) (hd : ∀ c ∈ t, Sre.isDigit c = false) : At t s (some false) m.step ∨ (m.step.outcome = none ∧ At t s (some false) m.step.step) := by
  obtain ⟨h1, h2, h3, h4, h5, h6, h7, h10, f, h11, h12, h13, h14, h15⟩ := h
  replace h7 := h7 rfl
  obtain ⟨h7, h8⟩ := h7
  obtain ⟨code, text, lim, start, lastStart, wholeText, mustAdvance, pc, pos, handed, outermost, marks, lastmark, lastindex, loops, inner, frames, weight, answer, seen, outcome⟩ := m
  dsimp only at h1 h2 h3 h4 h5 h6 h7 h8 h10 h11
  subst h1 h2 h3 h4 h5 h6 h7 h8 h11
  by_cases hp : pos ≥ text.size
  · refine .inl ?_
    show At _ _ _ (if pos ≥ text.size then _ else _)
    rw [if_pos hp]
    exact ⟨rfl, rfl, rfl, rfl, rfl, rfl, (fun e => nomatch e), h10, f, rfl, h12, h13, h14, h15⟩
  · cases hc : text.getD pos 0 == 46 with
    | false =>
      refine .inl ?_
      show At _ _ _ (if pos ≥ text.size then _ else match (Except.ok (text.getD pos 0 == 46, _) : Except String (Bool × Sre.Seen)) with | .error why => _ | .ok (false, seen) => _ | .ok (true, seen) => _)
      rw [if_neg hp, hc]
      exact ⟨rfl, rfl, rfl, rfl, rfl, rfl, (fun e => nomatch e), h10, f, rfl, h12, h13, h14, h15⟩
    | true =>
      refine .inr ?_
      have e : ∃ seen', Sre.M.step { code := ptn, text := text, lim := text.size, start, lastStart := text.size, wholeText, mustAdvance, pc := 9, pos, handed, outermost, marks, lastmark, lastindex, loops, inner, frames := [f], weight, answer := none, seen, outcome := none } =
          { code := ptn, text := text, lim := text.size, start, lastStart := text.size, wholeText, mustAdvance, pc := 11, pos := pos + 1, handed, outermost, marks, lastmark, lastindex, loops, inner, frames := [f], weight, answer := none, seen := seen', outcome := none } := by
        refine ⟨seen.add 16, ?_⟩
        show (if pos ≥ text.size then _ else match (Except.ok (text.getD pos 0 == 46, _) : Except String (Bool × Sre.Seen)) with | .error why => _ | .ok (false, seen) => _ | .ok (true, seen) => _) = _
        rw [if_neg hp, hc]
        rfl
      obtain ⟨seen', e⟩ := e
      rw [e]
      refine ⟨rfl, ?_⟩
      by_cases hq : ((1 : Nat) : Int) > (text.size : Int) - ((pos + 1 : Nat) : Int)
      · show At _ _ _ (if ((1 : Nat) : Int) > (text.size : Int) - ((pos + 1 : Nat) : Int) then _ else _)
        rw [if_pos hq]
        exact ⟨rfl, rfl, rfl, rfl, rfl, rfl, (fun e => nomatch e), h10, f, rfl, h12, h13, h14, h15⟩
      · have hin : pos + 1 < text.size := by omega
        obtain ⟨k, hk⟩ : ∃ k, min 4294967295 ((text.size : Int) - ((pos + 1 : Nat) : Int)).toNat = k + 1 := ⟨min 4294967295 ((text.size : Int) - ((pos + 1 : Nat) : Int)).toNat - 1, by omega⟩
        have hg : text.getD (pos + 1) 0 = text[pos + 1] := by simp [hin]
        obtain ⟨sn, hsn⟩ := digit_no (hd _ (Array.getElem_mem hin)) ((seen'.add 24).add 13)
        have hr : Sre.run ptn text 15 (min 4294967295 ((text.size : Int) - ((pos + 1 : Nat) : Int)).toNat) (pos + 1) 0 ((seen'.add 24).add 13) = .ok (0, sn) := by
          rw [hk]; unfold Sre.run; rw [hg, hsn]; rfl
        show At _ _ _ (if ((1 : Nat) : Int) > (text.size : Int) - ((pos + 1 : Nat) : Int) then _ else match Sre.run ptn text 15 (min 4294967295 ((text.size : Int) - ((pos + 1 : Nat) : Int)).toNat) (pos + 1) 0 ((seen'.add 24).add 13) with | .error why => _ | .ok (n, seen) => _)
        rw [if_neg hq, hr]
        exact ⟨rfl, rfl, rfl, rfl, rfl, rfl, (fun e => nomatch e), h10, f, rfl, h12, h13, h14, h15⟩

theorem no_step {t : Array Nat} {s : Nat} {m : Sre.M} (h : At t s (some false) m) (hs : s ≤ t.size) : (s < t.size ∧ At t (s + 1) none m.step) ∨ (m.step.outcome = none ∧ m.step.step.outcome = some .failed) := by
  obtain ⟨h1, h2, h3, h4, h5, h6, h7, h10, f, h11, h12, h13, h14, h15⟩ := h
  obtain ⟨code, text, lim, start, lastStart, wholeText, mustAdvance, pc, pos, handed, outermost, marks, lastmark, lastindex, loops, inner, frames, weight, answer, seen, outcome⟩ := m
  dsimp only at h1 h2 h3 h4 h5 h6 h7 h10 h11
  subst h1 h2 h3 h4 h5 h6 h11
  obtain ⟨wait, fpc, fpos, fout, fcount, fkept, floop, fbegan⟩ := f
  dsimp only at h12 h13 h14 h15
  subst h12 h13 h14 h15
  by_cases hp : fpos < text.size
  · refine .inl ⟨hp, ?_⟩
    show At _ _ _ (if fpos < text.size then (if weight - 1 + 1 + 0 > 16777216 then _ else _) else _)
    rw [if_pos hp, if_neg (by omega)]
    exact ⟨rfl, rfl, rfl, rfl, rfl, rfl, fun e => ⟨rfl, rfl⟩, by show weight - 1 + 1 + 0 ≤ 1; omega, _, rfl, rfl, rfl, rfl, rfl⟩
  · refine .inr ?_
    have e : Sre.M.step { code := ptn, text := text, lim := text.size, start, lastStart := text.size, wholeText, mustAdvance, pc, pos, handed, outermost, marks, lastmark, lastindex, loops, inner, frames := [{ wait := .nextStart, pc := 9, pos := fpos, outermost := fout, count := fcount, kept := {}, loop := floop, began := fbegan }], weight, answer := some false, seen, outcome := none } =
          { code := ptn, text := text, lim := text.size, start, lastStart := text.size, wholeText, mustAdvance, pc := 9, pos := fpos, handed, outermost := fout, marks, lastmark, lastindex, loops, inner, frames := [], weight := weight - (1 + 0), answer := some false, seen := seen, outcome := none } := by
      show (if fpos < text.size then _ else _) = _
      rw [if_neg hp]; rfl
    rw [e]
    exact ⟨rfl, rfl⟩

theorem runFor_step {m : Sre.M} (h : m.outcome = none) (k : Nat) : m.runFor (k + 1) = m.step.runFor k := by
  conv => lhs; unfold Sre.M.runFor
  rw [if_neg (by rw [h]; exact Bool.false_ne_true)]

theorem runs {t : Array Nat} (hd : ∀ c ∈ t, Sre.isDigit c = false) : ∀ (k s : Nat) (m : Sre.M), s + k = t.size → At t s none m → ∃ n, n ≤ 4 * (k + 1) ∧ (m.runFor n).outcome = some .failed
  | k, s, m, hk, h => by
    have after : ∀ m' : Sre.M, At t s (some false) m' → ∃ n, n ≤ 4 * k + 2 ∧ (m'.runFor n).outcome = some .failed := fun m' h' => by
      rcases no_step h' (by omega) with ⟨h1, h2⟩ | ⟨h1, h2⟩
      · obtain ⟨k', rfl⟩ : ∃ k', k = k' + 1 := ⟨k - 1, by omega⟩
        obtain ⟨n, hn, e⟩ := runs hd k' (s + 1) _ (by omega) h2
        exact ⟨n + 1, by omega, by rw [runFor_step h'.out]; exact e⟩
      · exact ⟨2, by omega, by rw [runFor_step h'.out, runFor_step h1]; exact h2⟩
    rcases at_step h (by omega) hd with h1 | ⟨h1, h2⟩
    · obtain ⟨n, hn, e⟩ := after _ h1
      exact ⟨n + 1, by omega, by rw [runFor_step h.out]; exact e⟩
    · obtain ⟨n, hn, e⟩ := after _ h2
      exact ⟨n + 2, by omega, by rw [runFor_step h.out, runFor_step h1]; exact e⟩

theorem search_fails {t : Array Nat} (hd : ∀ c ∈ t, Sre.isDigit c = false) : ∃ n, n ≤ 4 * (t.size + 1) ∧ ((Sre.forSearch ptn t 0 0 t.size false).runFor n).outcome = some .failed := by
  by_cases hl : t.size < 2
  · refine ⟨1, by omega, ?_⟩
    have e : (Sre.forSearch ptn t 0 0 t.size false) = (if (decide (0 > t.size) || decide (t.size - 0 < 2)) = true then _ else _) := rfl
    rw [e, if_pos (by simp; omega)]
    rfl
  · have e : (Sre.forSearch ptn t 0 0 t.size false) = (if (decide (0 > t.size) || decide (t.size - 0 < 2)) = true then _ else _) := rfl
    rw [e, if_neg (by simp; omega)]
    refine runs hd t.size 0 _ (by omega) ?_
    exact ⟨rfl, rfl, rfl, rfl, rfl, rfl, fun _ => ⟨rfl, rfl⟩, Nat.le_refl 1, _, rfl, rfl, rfl, rfl, rfl⟩

theorem fn_search (C : Cx K h₀) {a c : Addr} {x : Str} (hd : ∀ q ∈ x.cps, Sre.isDigit q = false) (hx : x.length ≤ 1000)
    (hp : ∃ o vs t2 t6, K.lookup a = some o ∧ o.cls = .type "re.Pattern" ∧ o.data = .fields vs ∧ vs.getD 6 .none = .int 0 t6 ∧ vs.getD 2 .none = .int 0 t2 ∧ vs.getD 5 .none = .ref c)
    (hc : ∃ o vs k, K.lookup c = some o ∧ o.data = .seq vs k ∧ (vs.map reRawOf).map (·.toNat) = ptn)
    {A : Around} {s : Shared} {E : Value → Shared → Prop} {Q : Value → Shared → Prop} {t : Tok} (k0 : Kp h₀ s.heap) (q : Q .none s) :
    wpAny (model prog w) A (call (.builtin "re.Pattern.search") [.ref a, .str x t]) Q E s := by
  obtain ⟨o, vs, t2, t6, ho, hcls, hdat, h6, h2, h5⟩ := hp
  obtain ⟨oc, cs, k, hoc, hcd, hcode⟩ := hc
  have kin := C.k.keeps k0
  refine wpAny_call_entry slot_pat_search ⟨_, kin _ _ ho, hcls⟩ entry_pat_search ?_ (args_pat_search _ _)
  obtain ⟨n', hn, hf⟩ := search_fails hd
  show wpAny _ _ (do let tt ← reTarget "re.Pattern.search" "search" ⟨[.ref a, .str x t], []⟩; reAnswer tt (Sre.forSearch tt.code tt.text tt.groups tt.pos tt.lim false)) _ _ s
  have e0 : reNamed "re.Pattern.search" "search" ["string", "pos", "endpos"] 1 [.str x t] [] = pure [some (.str x t), none, none] := rfl
  refine wpAny_bind ?_
  unfold reTarget
  dsimp only
  rw [e0]
  refine wpAny_bind (wpAny_pure ?_)
  dsimp only
  refine wpAny_bind (wpAny_pure (wpAny_bind (wpAny_pure (wpAny_bind (wpAny_fieldsOf (kin _ _ ho) hdat ?_)))))
  have e1 : reTextOf (.str x t) = pure (x.cps, 0) := rfl
  rw [e1]
  refine wpAny_bind (wpAny_pure ?_)
  rw [h6, h2, h5]
  have e2 : reRawNat (.int 0 t6) = 0 := rfl
  have e3 : reRawNat (.int 0 t2) = 0 := rfl
  rw [e2, e3]
  dsimp only
  rw [if_neg (by decide), if_neg (by decide)]
  have e4 : reNoCollectionInside (.str x t) 0 = pure () := rfl
  rw [e4]
  refine wpAny_bind (wpAny_pure ?_)
  unfold reRawItems
  refine wpAny_bind (wpAny_bind (wpAny_seqItems (kin _ _ hoc) hcd (wpAny_pure (wpAny_pure ?_))))
  dsimp only [Option.getD]
  rw [hcode]
  have e5 : min (0 : Int).toNat x.cps.size = 0 := by simp
  have e6 : min (2 ^ 63 - 1 : Int).toNat x.cps.size = x.cps.size := by
    have : x.cps.size ≤ 1000 := hx
    have h63 : (2 ^ 63 - 1 : Int).toNat = 9223372036854775807 := by decide
    rw [h63]; omega
  rw [e5, e6]
  unfold reAnswer
  refine wpAny_bind (run_failed (k := n') rfl hf (by have : x.cps.size ≤ 1000 := hx; omega) ?_)
  exact wpAny_pure ⟨.none, rfl, q⟩

theorem ev_search (C : Cx K h₀) {g : Str} {p apos pos : Pos} {e : Expr} {x : Str} {a c : Addr} (he' : Ev prog w h₀ n sc σ e (.str x)) (hd : ∀ q ∈ x.cps, Sre.isDigit q = false) (hx : x.length ≤ 1000)
    (hg : sc.names.lookup g = some .globalImplicit) (hv : nsIn K mainGlobals g = some (some (.ref a)))
    (hp : ∃ o vs t2 t6, K.lookup a = some o ∧ o.cls = .type "re.Pattern" ∧ o.dict = none ∧ o.data = .fields vs ∧ vs.getD 6 .none = .int 0 t6 ∧ vs.getD 2 .none = .int 0 t2 ∧ vs.getD 5 .none = .ref c)
    (hc : ∃ o vs k, K.lookup c = some o ∧ o.data = .seq vs k ∧ (vs.map reRawOf).map (·.toNat) = ptn)
    (hk : sc.kind = .function := by rfl) (hdb : (g == ("__debug__" : Str)) = false := by decide +kernel)
    (hline : (apos.endLine == pos.line) = true := by rfl)
    (hs : ∀ env, starEach [e] env = [(false, eval e env)] := by intro _; rfl) (hb : ∀ env, attributeBase (.Name g p) "search" env (eval (.Name g p) env) = eval (.Name g p) env := by intro _; rfl) :
    Ev prog w h₀ n sc σ (.Call (.Attribute (.Name g p) "search" apos) [e] [] pos) .none :=
  fun env he A s av Q E rm k0 ha sees q => Call_method1 (hb env) (hs env) hline (by
    refine glob_val C he k0 hk hg hv hdb ?_
    obtain ⟨o, vs, t2, t6, h1, h2, h3, h4, h5, h6, h7⟩ := hp
    have kin := C.k.keeps k0
    refine ⟨"re.Pattern", "re.Pattern.search", plainAttrs_pat, slot_pat_search, type_pat_search, ⟨_, kin _ _ h1, h2⟩, fun b eb => by cases eb; exact ⟨_, kin _ _ h1, h3⟩, callWith_builtin rfl (evalArgs_plain (spliced_cons (he' env he A s av _ _ rm k0 ha sees fun u h1' t1 k1 r1 => spliced_nil ?_)))⟩
    obtain ⟨t, rfl⟩ := r1
    exact fn_search C hd hx ⟨o, vs, t2, t6, h1, h2, h4, h5, h6, h7⟩ hc (k0.trans k1) (q .none h1' t1 k1 rfl))

theorem tr_none {e : Expr} (h : Ev prog w h₀ n sc σ e .none) (hp : ∀ env whole, isTrue e env whole = (do let v ← whole; standAt e.pos; holding [v] (truthy v)) := by intro _ _; rfl) : Tr prog w h₀ n sc σ e false :=
  fun env he A s av Q E rm k0 ha sees q => wpAny_isTrue_value (h env he A s av _ _ rm k0 ha sees fun v h1 t1 k1 r1 => by
    rw [show v = .none from r1]; exact (fun _ _ _ => q h1 t1 k1)) (hp env _)
end
end Mine
end

section
open PySem PySem.W PyProof.Rows PySem.Calls PySem.Spec
set_option Elab.async false
set_option linter.unusedVariables false
namespace Mine

def Sub (τ σ : Sto) : Prop := ∀ x d, τ.lookup x = some d → σ.lookup x = some d
theorem sub_nil {σ : Sto} : Sub [] σ := fun x d h => by cases h
theorem sub_cons {τ σ : Sto} {x : Str} {d : D} (h : σ.lookup x = some d) (r : Sub τ σ) : Sub ((x, d) :: τ) σ := fun y e hy => by
  rw [List.lookup_cons] at hy
  cases hb : y == x with
  | true => rw [hb] at hy; cases hy; rw [beq_iff_eq.mp hb]; exact h
  | false => rw [hb] at hy; exact r y e hy
theorem sub_refl {σ : Sto} : Sub σ σ := fun _ _ h => h
theorem Sees.sub {h : Heap} {av : Addr → Prop} {env : Env} {τ σ : Sto} (s : Sees h av env σ) (u : Sub τ σ) : Sees h av env τ := fun x d e => s x d (u x d e)

theorem capt_nil {scope : Scope} : capt scope [] = [] := rfl
theorem capt_keep {scope : Scope} {x : Str} {d : D} {σ τ : Sto} (h : (scope.names.lookup x == some .free) = true) (r : capt scope σ = τ) : capt scope ((x, d) :: σ) = (x, d) :: τ := by
  unfold capt at r ⊢; rw [List.filter_cons]; simp only [h, if_true, r]
theorem capt_skip {scope : Scope} {x : Str} {d : D} {σ τ : Sto} (h : (scope.names.lookup x == some .free) = false) (r : capt scope σ = τ) : capt scope ((x, d) :: σ) = τ := by
  unfold capt at r ⊢; rw [List.filter_cons]; simp only [h, Bool.false_eq_true, if_false, r]

section
variable {prog : Program} {w : World} {K : Frag} {h₀ : Heap} {n : Nat} {sc : Scope} {σ : Sto}

theorem ev_sub {τ : Sto} {e : Expr} {d : D} (h : Ev prog w h₀ n sc τ e d) (u : Sub τ σ) : Ev prog w h₀ n sc σ e d := fun env he A s av Q E rm k0 ha sees q => h env he A s av Q E rm k0 ha (sees.sub u) q
theorem ex_sub {τ τ' σ' : Sto} {sts : List Stmt} (h : Ex prog w h₀ n sc τ sts (.next τ')) (u : Sub τ σ) (v : Sub σ' τ') : Ex prog w h₀ n sc σ sts (.next σ') :=
  fun env he A s av Q E rm k0 ha fr sees q => h env he A s av _ _ rm k0 ha fr (sees.sub u) fun f h1 t1 k1 fr1 o1 => q f h1 t1 k1 fr1 ⟨o1.1, o1.2.sub v⟩
theorem ex_sub1 {τ : Sto} {sts : List Stmt} {out : Out} (h : Ex prog w h₀ n sc τ sts out) (u : Sub τ σ) : Ex prog w h₀ n sc σ sts out :=
  fun env he A s av Q E rm k0 ha fr sees q => h env he A s av _ _ rm k0 ha fr (sees.sub u) q
theorem ex_end {σ' : Sto} (v : Sub σ' σ) : Ex prog w h₀ n sc σ [] (.next σ') := ex_sub ex_nil sub_refl v

/-- comprehensions over one name -/
theorem comp1 {x : Str} {p : Pos} {elt : Expr} {d y : D} {ds ys : List D} (hx : sc.names.lookup x = some .local) (h : Ev prog w h₀ n sc ((x, d) :: σ) elt y) (hr : CompL prog w h₀ n sc (.Name x p) [] elt σ ds ys) (hk : sc.kind = .function := by rfl) :
    CompL prog w h₀ n sc (.Name x p) [] elt σ (d :: ds) (y :: ys) := .cons (bs := [(x, d)]) (asg_name hx hk) .none h hr
theorem compI {x : Str} {p : Pos} {elt test : Expr} {d y : D} {ds ys : List D} (hx : sc.names.lookup x = some .local) (ht : Tr prog w h₀ n sc ((x, d) :: σ) test true) (h : Ev prog w h₀ n sc ((x, d) :: σ) elt y) (hr : CompL prog w h₀ n sc (.Name x p) [test] elt σ ds ys) (hk : sc.kind = .function := by rfl) :
    CompL prog w h₀ n sc (.Name x p) [test] elt σ (d :: ds) (y :: ys) := .cons (bs := [(x, d)]) (asg_name hx hk) (.one ht) h hr
theorem compS {x : Str} {p : Pos} {elt test : Expr} {d : D} {ds ys : List D} (hx : sc.names.lookup x = some .local) (ht : Tr prog w h₀ n sc ((x, d) :: σ) test false) (hr : CompL prog w h₀ n sc (.Name x p) [test] elt σ ds ys) (hk : sc.kind = .function := by rfl) :
    CompL prog w h₀ n sc (.Name x p) [test] elt σ (d :: ds) ys := .skip (bs := [(x, d)]) (asg_name hx hk) (.one ht) hr
theorem ev_compC {elt target iter : Expr} {ifs : List Expr} {scope : Scope} {pos : Pos} {ds ys : List D} {τ : Sto} (hsrc : Src prog w h₀ n sc σ iter ds) (hc : capt scope σ = τ) (hl : CompL prog w h₀ n (relabelS scope sc) target ifs elt τ ds ys) (hlen : ds.length ≤ 1000)
    (hok : scopeOk scope sc = true) (hca : capsOk scope σ = true) (hs : ∀ env x, foldedSetIterable iter env x = pure x) : Ev prog w h₀ n sc σ (.ListComp elt [⟨target, iter, ifs, 0⟩] scope pos) (.lst ys) :=
  ev_comp hsrc (hc ▸ hl) hlen hok hca hs
theorem ex_assignC {x : Str} {p spos : Pos} {elt target iter : Expr} {ifs : List Expr} {scope : Scope} {pos : Pos} {ds ys : List D} {τ : Sto} {rest : List Stmt} {out : Out} (hsrc : Src prog w h₀ n sc σ iter ds) (hc : capt scope σ = τ) (hl : CompL prog w h₀ n (relabelS scope sc) target ifs elt τ ds ys) (hlen : ds.length ≤ 1000)
    (hok : scopeOk scope sc = true) (hca : capsOk scope σ = true) (hx : sc.names.lookup x = some .local)
    (hsw : ∀ env, EnvFor sc env → swapsWith (.ListComp elt [⟨target, iter, ifs, 0⟩] scope pos) (some (.Name x p)) spos.line env = pure true)
    (hs : ∀ env x, foldedSetIterable iter env x = pure x) (hr : Ex prog w h₀ n sc ((x, .lst ys) :: σ) rest out) (hk : sc.kind = .function := by rfl) : Ex prog w h₀ n sc σ (.Assign [.Name x p] (.ListComp elt [⟨target, iter, ifs, 0⟩] scope pos) spos :: rest) out :=
  ex_cons (ex1_assignComp hsrc (hc ▸ hl) hlen hok hca hx hsw hk hs) hr
theorem caps_nil {scope : Scope} (h : scope.names.all (fun p => p.2 != .free) = true) : capsOk scope σ = true := by
  unfold capsOk
  rw [List.all_eq_true] at h ⊢
  intro p hp
  rw [h p hp]; rfl
theorem ev_split {o e : Expr} {apos pos : Pos} {x y : Str} (ho : Ev prog w h₀ n sc σ o (.str x)) (he : Ev prog w h₀ n sc σ e (.str y))
    (h1 : (decide (x.length < y.length) || decide (PySem.Builtin.Str.strKind x < PySem.Builtin.Str.strKind y)) = false) (hy : (y.length == 0) = false) (hf : (PySem.Builtin.Str.occurrences x y 0 x.length (x.length + 1)).isEmpty = false) (hx : x.length ≤ sizeLine)
    (hn : (PySem.Builtin.Str.partsBetween x (PySem.Builtin.Str.occurrences x y 0 x.length (x.length + 1)) y.length).length ≤ sizeLine)
    (hline : (apos.endLine == pos.line) = true := by rfl)
    (hs : ∀ env, starEach [e] env = [(false, eval e env)] := by intro _; rfl) (hb : ∀ env, attributeBase o "split" env (eval o env) = eval o env := by intro _; rfl) : Ev prog w h₀ n sc σ (.Call (.Attribute o "split" apos) [e] [] pos) (.lst ((Txt.split x y).map .str)) :=
  ev_meth1 F.plainAttrs_str F.slot_str_split F.type_str_split tyStr ho he (fn_split h1 hy hf hx hn) hline hs hb
theorem src_mono {k : Nat} {e : Expr} {ds : List D} (h : Src prog w h₀ k sc σ e ds) (hk : k ≤ n) : Src prog w h₀ n sc σ e ds := fun env he A s av Q E r => h env he A s av Q E (r.mono hk)
theorem trAnd_one {e : Expr} {b : Bool} (h : Tr prog w h₀ n sc σ e b) : TrAnd prog w h₀ n sc σ [e] b := by
  have := trAnd_cons h (c := true) (fun _ => trAnd_nil)
  rwa [Bool.and_true] at this
theorem trOr_one {e : Expr} {b : Bool} (h : Tr prog w h₀ n sc σ e b) : TrOr prog w h₀ n sc σ [e] b := by
  have := trOr_cons h (c := false) (fun _ => trOr_nil)
  rwa [Bool.or_false] at this
/-- a test that fails, all parts of it -/
theorem trOr_false {e : Expr} {es : List Expr} (h : Tr prog w h₀ n sc σ e false) (hr : TrOr prog w h₀ n sc σ es false) : TrOr prog w h₀ n sc σ (e :: es) false := trOr_cons h fun _ => hr
theorem ex_for {x : Str} {p pos : Pos} {iter : Expr} {body rest : List Stmt} {ds : List D} {σ' : Sto} {out : Out} (hsrc : Src prog w h₀ n sc σ iter ds) (hl : ForL prog w h₀ n sc x body σ ds (.next σ')) (hx : sc.names.lookup x = some .local ∨ sc.names.lookup x = some .cell)
    (hr : Ex prog w h₀ n sc σ' rest out) (hs : ∀ env x, foldedSetIterable iter env x = pure x) (hk : sc.kind = .function := by rfl) : Ex prog w h₀ n sc σ (.For (.Name x p) iter body [] pos :: rest) out :=
  ex_cons (ex1_for hsrc hl hx hk hs) hr
end
end Mine
namespace Mine
section
variable {prog : Program} {w : World} {K : Frag} {h₀ : Heap} {n : Nat} {sc : Scope} {σ : Sto}
theorem fn_min3i {a b c : Int} : Fn prog w h₀ n (.builtin "min") [.lst [.int a, .int b, .int c]] (.int (leastOf [a, b, c])) := fn_min (ns := [a, b, c]) (by simp)
theorem src_range3 (C : Cx K h₀) {e : Expr} {p pos : Pos} (hx : sc.names.lookup (Str.ofString "range") = some .globalImplicit) (hv : nsIn K mainGlobals "range" = some none) (he' : Ev prog w h₀ n sc σ e (.int 3)) (hk : sc.kind = .function)
    (hs : ∀ env, starEach [e] env = (false, eval e env) :: starEach [] env) :
    Src prog w h₀ n sc σ (.Call (.Name "range" p) [e] [] pos) [.int 0, .int 1, .int 2] := src_cast (src_range1 C hx hv (k := 3) he' (by decide) hk hs) rfl
end
end Mine
namespace Mine
section
variable {prog : Program} {w : World} {K : Frag} {h₀ : Heap} {n : Nat} {sc : Scope} {σ : Sto}
theorem ex_unpack3l {a b c : Str} {p1 p2 p3 : Pos} {k : Nat} {tpos pos : Pos} {value : Expr} {d1 d2 d3 : D} {rest : List Stmt} {out : Out} (h : Ev prog w h₀ n sc σ value (.lst [d1, d2, d3])) (hx : ∀ q ∈ [a, b, c], sc.names.lookup q = some .local)
    (hr : Ex prog w h₀ n sc ((c, d3) :: (b, d2) :: (a, d1) :: σ) rest out)
    (hs : ∀ env, swapsWithSole [.Tuple [.Name a p1, .Name b p2, .Name c p3] k tpos] value pos.line env = pure false) (hw : ∀ env, swappedStores [.Tuple [.Name a p1, .Name b p2, .Name c p3] k tpos] value env = pure none)
    (ha' : ∀ env, assignEach [.Name a p1, .Name b p2, .Name c p3] env = [(a, p1), (b, p2), (c, p3)].map fun q => (false, assign (.Name q.1 q.2) env)) (hk : sc.kind = .function) :
    Ex prog w h₀ n sc σ (.Assign [.Tuple [.Name a p1, .Name b p2, .Name c p3] k tpos] value pos :: rest) out :=
  ex_unpack h (asg_lst [(a, p1), (b, p2), (c, p3)] (by simpa using hx) rfl rfl ha' hk) hr hs hw
theorem ex_unpack3t {a b c : Str} {p1 p2 p3 : Pos} {k : Nat} {tpos pos : Pos} {value : Expr} {d1 d2 d3 : D} {rest : List Stmt} {out : Out} (h : Ev prog w h₀ n sc σ value (.tup [d1, d2, d3])) (hx : ∀ q ∈ [a, b, c], sc.names.lookup q = some .local)
    (hr : Ex prog w h₀ n sc ((c, d3) :: (b, d2) :: (a, d1) :: σ) rest out)
    (hs : ∀ env, swapsWithSole [.Tuple [.Name a p1, .Name b p2, .Name c p3] k tpos] value pos.line env = pure false) (hw : ∀ env, swappedStores [.Tuple [.Name a p1, .Name b p2, .Name c p3] k tpos] value env = pure none)
    (ha' : ∀ env, assignEach [.Name a p1, .Name b p2, .Name c p3] env = [(a, p1), (b, p2), (c, p3)].map fun q => (false, assign (.Name q.1 q.2) env)) (hk : sc.kind = .function) :
    Ex prog w h₀ n sc σ (.Assign [.Tuple [.Name a p1, .Name b p2, .Name c p3] k tpos] value pos :: rest) out :=
  ex_unpack h (asg_tup [(a, p1), (b, p2), (c, p3)] (by simpa using hx) rfl rfl ha' hk) hr hs hw
theorem ex_if_no {test : Expr} {body orelse rest : List Stmt} {pos : Pos} {out : Out} (h : Tr prog w h₀ n sc σ test false) (h2 : Ex prog w h₀ n sc σ (orelse ++ rest) out) :
    Ex prog w h₀ n sc σ (.If test body orelse pos :: rest) out := ex_if h (fun e => nomatch e) (fun _ => h2)
theorem ex_if_no0 {test : Expr} {body rest : List Stmt} {pos : Pos} {out : Out} (h : Tr prog w h₀ n sc σ test false) (h2 : Ex prog w h₀ n sc σ rest out) :
    Ex prog w h₀ n sc σ (.If test body [] pos :: rest) out := ex_if h (fun e => nomatch e) (fun _ => h2)
theorem ex_if_yes {test : Expr} {body orelse rest : List Stmt} {pos : Pos} {out : Out} (h : Tr prog w h₀ n sc σ test true) (h2 : Ex prog w h₀ n sc σ (body ++ rest) out) :
    Ex prog w h₀ n sc σ (.If test body orelse pos :: rest) out := ex_if h (fun _ => h2) (fun e => nomatch e)
theorem ints_flat {l : List Int} : flats (l.map .int) = true := by
  induction l with
  | nil => rfl
  | cons a r ih => exact ih
theorem cm_ints_ne {a b c : Int} : Cm prog w .NotEq (.lst [.int a, .int b, .int c]) (.lst [.int a, .int b, .int c]) false := cm_lst_ne rfl
end
end Mine
namespace Mine
theorem swap_cell {sc : Scope} {elt : Expr} {gens : List Comprehension} {scope : Scope} {pos p : Pos} {x : Str} {line : Nat} (hx : sc.names.lookup x = some .cell) : ∀ env, EnvFor sc env → swapsWith (.ListComp elt gens scope pos) (some (.Name x p)) line env = pure false := fun env he => by
  show (pure (env.blockKind == .function && env.kindOf x == some .local && p.line == pos.line && !(scope.names.any fun (n, k) => n == x && (k == .local || k == .cell))) : Sem Bool) = pure false
  rw [he.kind, hx]
  have e : ((some NameKind.cell : Option NameKind) == some .local) = false := by decide
  rw [e, Bool.and_false, Bool.false_and, Bool.false_and]
theorem swap_local {sc : Scope} {elt : Expr} {gens : List Comprehension} {scope : Scope} {pos p : Pos} {x : Str} {line : Nat} (hx : sc.names.lookup x = some .local) (hk : sc.kind = .function) (hl : (p.line == pos.line) = true) (hs : (scope.names.any fun (n, k) => n == x && (k == .local || k == .cell)) = false) :
    ∀ env, EnvFor sc env → swapsWith (.ListComp elt gens scope pos) (some (.Name x p)) line env = pure true := fun env he => by
  show (pure (env.blockKind == .function && env.kindOf x == some .local && p.line == pos.line && !(scope.names.any fun (n, k) => n == x && (k == .local || k == .cell))) : Sem Bool) = pure true
  rw [he.kind, hx, hl, hs]
  have : env.blockKind = .function := by unfold Env.blockKind; rw [he.scope, hk]; rfl
  rw [this]; rfl
end Mine
namespace Mine
section
variable {prog : Program} {w : World} {K : Frag} {h₀ : Heap} {n : Nat} {sc : Scope} {σ : Sto}
theorem sub_under {τ σ : Sto} {x : Str} {d : D} (u : Sub τ σ) : Sub ((x, d) :: τ) ((x, d) :: σ) := fun y e hy => by
  rw [List.lookup_cons] at hy ⊢
  cases hb : y == x with
  | true => rw [hb] at hy; exact hy
  | false => rw [hb] at hy; exact u y e hy
theorem forL_sub {x : Str} {body : List Stmt} {τ : Sto} {ds : List D} {σ' : Sto} (h : ForL prog w h₀ n sc x body τ ds (.next σ')) (u : Sub τ σ) (hne : ds ≠ [] := by intro h; cases h) : ForL prog w h₀ n sc x body σ ds (.next σ') := by
  cases h with
  | nil => exact absurd rfl hne
  | cons h1 h2 => exact .cons (ex_sub1 h1 (sub_under u)) h2
end
end Mine
end

section
open PySem PySem.W PyProof.Rows PySem.Calls PySem.Spec
open PySem.Builtin.Str
set_option Elab.async false
set_option linter.unusedVariables false
namespace Mine

/-- a text by its code points -/
def S (l : List Nat) : Str := ⟨l.toArray⟩
theorem S_len (l : List Nat) : (S l).length = l.length := by simp [S, Str.length]
theorem S_list (l : List Nat) : (S l).cps.toList = l := rfl
theorem S_app (a b : List Nat) : S a ++ S b = S (a ++ b) := Str.ext' (by simp [S, Str.cps_append])
theorem S_inj {a b : List Nat} (h : S a = S b) : a = b := by
  have : (S a).cps.toList = (S b).cps.toList := by rw [h]
  exact this
theorem S_beq (a b : List Nat) : (S a == S b) = (a == b) := by
  cases h : a == b with
  | true => have e := beq_iff_eq.mp h; subst e; exact beq_self_eq_true _
  | false => rw [beq_eq_false_iff_ne] at h ⊢; exact fun e => h (S_inj e)
theorem dot_S : Str.ofString "." = S [46] := by decide +kernel
theorem local_S : Str.ofString "local" = S [108, 111, 99, 97, 108] := by decide +kernel
theorem empty_S : Str.ofString "" = S [] := by decide +kernel

theorem sub_dot (l : List Nat) (k : Nat) : subAt (S l) (S [46]) k = (l[k]? == some 46) := by
  rw [StrLaws.subAt_eq, S_list, S_list, S_len]
  show ((l.drop k).take 1 == [46]) = _
  cases h : l.drop k with
  | nil =>
    have : l[k]? = none := by rw [List.getElem?_eq_none_iff]; exact List.drop_eq_nil_iff.mp h
    rw [this]; rfl
  | cons a r =>
    have : l[k]? = some a := by
      have h2 : (l.drop k)[0]? = some a := by rw [h]; rfl
      rw [List.getElem?_drop] at h2
      simpa using h2
    rw [this]
    show (a :: r.take 0 == [46]) = (some a == some 46)
    rw [List.take_zero]
    by_cases e : a = 46
    · subst e; rfl
    · rw [beq_eq_false_iff_ne.mpr (by simpa using e), beq_eq_false_iff_ne.mpr (by simpa using e)]

theorem find_none {l : List Nat} (h : 46 ∉ l) : Txt.find (S l) (S [46]) = -1 := by
  rcases find_whole (S l) (S [46]) with ⟨h1, _⟩ | ⟨i, _, h2, _⟩
  · exact h1
  · have := h2.2
    rw [sub_dot, beq_iff_eq] at this
    exact absurd (List.mem_of_getElem? this) h
theorem find_at {a r : List Nat} (h : 46 ∉ a) : Txt.find (S (a ++ 46 :: r)) (S [46]) = a.length := by
  have hat : subAt (S (a ++ 46 :: r)) (S [46]) a.length = true := by rw [sub_dot]; simp
  have hno : ∀ k, k < a.length → subAt (S (a ++ 46 :: r)) (S [46]) k = false := fun k hk => by
    rw [sub_dot, List.getElem?_append_left hk, List.getElem?_eq_getElem hk]
    rw [beq_eq_false_iff_ne]
    intro e
    have e' := Option.some.inj e
    exact h (e' ▸ List.getElem_mem hk)
  rcases find_whole (S (a ++ 46 :: r)) (S [46]) with ⟨_, h2⟩ | ⟨i, h1, h2, h3⟩
  · exact absurd ⟨by rw [S_len, S_len]; simp, hat⟩ (h2 a.length)
  · rw [h1]
    have : i = a.length := by
      rcases Nat.lt_trichotomy i a.length with q | q | q
      · have := hno i q; rw [h2.2] at this; cases this
      · exact q
      · exact absurd ⟨by rw [S_len, S_len]; simp, hat⟩ (h3 a.length q)
    rw [this]
theorem slice_from {l : List Nat} {i : Int} {k : Nat} (hi : i = k) (hk : k ≤ l.length) : Txt.slice (S l) (some i) none = S (l.drop k) := by
  subst hi
  refine (StrLaws.sliceText_from (x := S l) (i := (k : Int)) ⟨by omega, by rw [S_list]; omega⟩).trans ?_
  rw [S_list]
  have e1 : ((k : Int)).toNat = k := by omega
  have e2 : ((l.length : Int) - (k : Int)).toNat = l.length - k := by omega
  rw [e1, e2]
  have : (l.drop k).take (l.length - k) = l.drop k := List.take_of_length_le (by rw [List.length_drop]; exact Nat.le_refl _)
  rw [this]; rfl
theorem slice_cut {a r : List Nat} (h : r.length = 6) : Txt.slice (S (a ++ r)) none (some (-6)) = S a := by
  rw [slice_to_neg (by decide)]
  have hl : (max 0 (((S (a ++ r)).length : Int) + -6)) = (a.length : Int) := by rw [S_len, List.length_append, h]; omega
  rw [hl]
  refine (StrLaws.sliceText_to (x := S (a ++ r)) (j := (a.length : Int)) ⟨by omega, by rw [S_list, List.length_append]; omega⟩).trans ?_
  rw [S_list]
  have e2 : ((a.length : Int) - 0).toNat = a.length := by omega
  rw [e2, List.drop_zero, List.take_left]; rfl
theorem ends_S (a b : List Nat) : Txt.endswith (S a) (S b) = true ↔ b <:+ a := by
  unfold Txt.endswith
  rw [StrLaws.subAt_eq, S_list, S_list, S_len, S_len, Bool.and_eq_true, decide_eq_true_eq, beq_iff_eq]
  constructor
  · rintro ⟨h1, h2⟩
    have : (a.drop (a.length - b.length)).take b.length = a.drop (a.length - b.length) := List.take_of_length_le (by rw [List.length_drop]; omega)
    rw [this] at h2
    rw [← h2]; exact List.drop_suffix _ _
  · rintro ⟨r, rfl⟩
    refine ⟨by simp, ?_⟩
    simp
theorem starts_dot (c : Nat) (r : List Nat) : Txt.startswith (S (c :: r)) (S [46]) = (c == 46) := by
  unfold Txt.startswith
  rw [sub_dot]
  simp [S_len]
theorem S_first (c : Nat) (r : List Nat) : (seqIndex? 0 (S (c :: r)).length).bind ((S (c :: r)).cps[·]?) = some c := by
  rw [S_len]; simp [seqIndex?, S]
theorem S_last (r : List Nat) (c : Nat) : (seqIndex? (-1) (S (r ++ [c])).length).bind ((S (r ++ [c])).cps[·]?) = some c := by
  have e : seqIndex? (-1) (S (r ++ [c])).length = some r.length := by
    rw [S_len, List.length_append]
    unfold seqIndex?
    dsimp only
    have h1 : (-1 : Int) < 0 := by decide
    simp only [h1, if_true, List.length_singleton]
    rw [if_pos (by simp only [Bool.and_eq_true, decide_eq_true_eq]; omega)]
    congr 1
    omega
  rw [e]
  simp [S]
theorem lower_S {l : List Nat} (h : ∀ c ∈ l, c < 128) : Txt.lower (S l) = S (l.map lo1) := by
  rw [lower_ascii h]; simp [S]
theorem upper_S {l : List Nat} (h : ∀ c ∈ l, c < 128) : Txt.upper (S l) = S (l.map up1) := by
  rw [upper_ascii h]; simp [S]
/-- labels, each behind a point -/
def dotted : List (List Nat) → List Nat
  | [] => []
  | x :: L => 46 :: (x ++ dotted L)
theorem join_dot : ∀ (x : List Nat) (L : List (List Nat)), Txt.join (S [46]) ((x :: L).map S) = S (x ++ dotted L)
  | x, [] => by
    show glued _ _ = _
    rw [StrLaws.glued_eq_join]; simp [dotted, Str.join]
  | x, y :: L => by
    have ih := join_dot y L
    unfold Txt.join at ih ⊢
    rw [StrLaws.glued_eq_join] at ih ⊢
    show S x ++ S [46] ++ Str.join (S [46]) (S y :: L.map S) = _
    rw [show S y :: L.map S = (y :: L).map S from rfl, ih, S_app, S_app]
    simp [dotted]
end Mine
end

section
open PySem PySem.W PyProof.Rows PySem.Calls PySem.Spec
set_option Elab.async false
set_option linter.unusedVariables false
namespace Mine
section
variable {prog : Program} {w : World} {K : Frag} {h₀ : Heap} {n : Nat} {sc : Scope} {σ : Sto}

theorem ev_tupItem {value slice : Expr} {pos : Pos} {xs : List D} {k : Nat} {d : D} (hv : Ev prog w h₀ n sc σ value (.tup xs)) (hi : Ev prog w h₀ n sc σ slice (.int k)) (h1 : k < 1000) (hx : xs[k]? = some d)
    (hs : ∀ o i, subscripted slice false o i = operate [o, i] (getItem o i)) : Ev prog w h₀ n sc σ (.Subscript value slice pos) d :=
  fun env he A s av Q E rm k0 ha sees q => Subscript_ (hv env he A s av _ _ rm k0 ha sees fun o h1' t1 k1 r1 =>
    hi env he A _ av _ _ rm (k0.trans k1) (ha.keeps k1) (sees.keeps k1) fun i h2 t2 k2 r2 => by
      obtain ⟨a, vs, m, rfl, na, ea, ra⟩ := r1
      obtain ⟨t, rfl⟩ := r2
      obtain ⟨v, ev, rv⟩ := (ra.mono (k2.seq av)).get hx
      have hl := isT (k2 _ _ ea)
      have hlen := ra.length
      have hk : k < vs.length := by
        rcases Nat.lt_or_ge k vs.length with h | h
        · exact h
        · rw [List.getElem?_eq_none h] at ev; cases ev
      refine sub_tail (T := "tuple") hl.typeIs slot_tuple_getitem.lookup (getItem_tuple (j := k) hl (by omega) (by omega) ?_ ?_ (q v h2 t2 (k1.trans k2) rv)) (.inl (hs _ _))
      · first | (simp [seqIndex?]; omega) | (simp; omega)
      · simpa using ev)

theorem comp_map {x : Str} {p : Pos} {elt : Expr} (f : D → D) (hx : sc.names.lookup x = some .local) (hk : sc.kind = .function) : ∀ (ds : List D), (∀ d ∈ ds, Ev prog w h₀ n sc ((x, d) :: σ) elt (f d)) → CompL prog w h₀ n sc (.Name x p) [] elt σ ds (ds.map f)
  | [], _ => .nil
  | d :: ds, h => comp1 hx (h d List.mem_cons_self) (comp_map f hx hk ds fun e he => h e (List.mem_cons_of_mem _ he)) hk
theorem comp3l {a b c : Str} {p1 p2 p3 p : Pos} {k : Nat} {elt : Expr} {d1 d2 d3 y : D} {ds ys : List D} (hx : ∀ q ∈ [a, b, c], sc.names.lookup q = some .local) (h : Ev prog w h₀ n sc ((c, d3) :: (b, d2) :: (a, d1) :: σ) elt y)
    (hr : CompL prog w h₀ n sc (.Tuple [.Name a p1, .Name b p2, .Name c p3] k p) [] elt σ ds ys) (ha' : ∀ env, assignEach [.Name a p1, .Name b p2, .Name c p3] env = [(a, p1), (b, p2), (c, p3)].map fun q => (false, assign (.Name q.1 q.2) env)) (hk : sc.kind = .function) :
    CompL prog w h₀ n sc (.Tuple [.Name a p1, .Name b p2, .Name c p3] k p) [] elt σ (.lst [d1, d2, d3] :: ds) (y :: ys) :=
  .cons (bs := [(c, d3), (b, d2), (a, d1)]) (asg_lst [(a, p1), (b, p2), (c, p3)] (by simpa using hx) rfl rfl ha' hk) .none h hr
theorem comp2t {a b : Str} {p1 p2 p : Pos} {k : Nat} {elt : Expr} {d1 d2 y : D} {ds ys : List D} (hx : ∀ q ∈ [a, b], sc.names.lookup q = some .local) (h : Ev prog w h₀ n sc ((b, d2) :: (a, d1) :: σ) elt y)
    (hr : CompL prog w h₀ n sc (.Tuple [.Name a p1, .Name b p2] k p) [] elt σ ds ys) (ha' : ∀ env, assignEach [.Name a p1, .Name b p2] env = [(a, p1), (b, p2)].map fun q => (false, assign (.Name q.1 q.2) env)) (hk : sc.kind = .function) :
    CompL prog w h₀ n sc (.Tuple [.Name a p1, .Name b p2] k p) [] elt σ (.tup [d1, d2] :: ds) (y :: ys) :=
  .cons (bs := [(b, d2), (a, d1)]) (asg_tup [(a, p1), (b, p2)] (by simpa using hx) rfl rfl ha' hk) .none h hr
theorem src_range4 (C : Cx K h₀) {e : Expr} {p pos : Pos} (hx : sc.names.lookup (Str.ofString "range") = some .globalImplicit) (hv : nsIn K mainGlobals "range" = some none) (he' : Ev prog w h₀ n sc σ e (.int 4)) (hk : sc.kind = .function)
    (hs : ∀ env, starEach [e] env = (false, eval e env) :: starEach [] env) :
    Src prog w h₀ n sc σ (.Call (.Name "range" p) [e] [] pos) [.int 0, .int 1, .int 2, .int 3] := src_cast (src_range1 C hx hv (k := 4) he' (by decide) hk hs) rfl
theorem ev_itemN {value slice : Expr} {pos : Pos} {xs : List D} {k : Nat} {d : D} (hv : Ev prog w h₀ n sc σ value (.lst xs)) (hi : Ev prog w h₀ n sc σ slice (.int k)) (h1 : k < 1000) (hx : xs[k]? = some d)
    (hs : ∀ o i, subscripted slice false o i = operate [o, i] (getItem o i)) : Ev prog w h₀ n sc σ (.Subscript value slice pos) d :=
  ev_item hv hi (by omega) (by omega) (by simpa using hx) hs
end
end Mine
namespace Mine
section
variable {prog : Program} {w : World} {K : Frag} {h₀ : Heap} {n : Nat} {sc : Scope} {σ : Sto}
theorem compL_cast {target elt : Expr} {ifs : List Expr} {ds ys ys' : List D} (h : CompL prog w h₀ n sc target ifs elt σ ds ys) (e : ys = ys') : CompL prog w h₀ n sc target ifs elt σ ds ys' := e ▸ h
theorem forL_const {x : Str} {body : List Stmt} : ∀ {ds : List D}, (∀ d ∈ ds, Ex prog w h₀ n sc ((x, d) :: σ) body (.next σ)) → ForL prog w h₀ n sc x body σ ds (.next σ)
  | [], _ => .nil
  | d :: ds, h => .cons (h d List.mem_cons_self) (forL_const fun e he => h e (List.mem_cons_of_mem _ he))
end
end Mine
end

section
open PySem PySem.W PyProof.Rows PySem.Calls PySem.Spec
set_option Elab.async false
set_option linter.unusedVariables false
set_option compiler.extract_closed false
set_option maxRecDepth 100000
namespace Mine

local macro_rules | `(tactic| walk_at "lk") => `(tactic| first | (with_reducible exact lk_hit) | (with_reducible assumption) | ((with_reducible refine' lk_skip (by decide +kernel) ?h); (case h => walk_at "lk")))
local macro_rules | `(tactic| walk_at "sw") => `(tactic| first | ((with_reducible refine swap_cell ?_); decide +kernel) | (intro _ _; rfl))
local macro_rules | `(tactic| walk_at "num") => `(tactic| first | with_reducible assumption | decide +kernel | omega)
local macro_rules | `(tactic| walk_at "bi") => `(tactic| first
  | (with_reducible exact bi_add) | (with_reducible exact bi_sub) | (with_reducible exact bi_fadd) | (with_reducible exact bi_fsub) | (with_reducible exact bi_fmul)
  | ((with_reducible refine bi_mul ?_); decide +kernel)
  | ((with_reducible refine bi_mod ?_); walk_at "num") | ((with_reducible refine bi_fdiv ?_ ?_); (· walk_at "num"); walk_at "num")
  | ((with_reducible refine bi_pow ?_ ?_); (· walk_at "num"); walk_at "num")
  | ((with_reducible refine bi_div_ii ?_ ?_); (· walk_at "num"); walk_at "num")
  | ((with_reducible refine bi_lst ?_); first | exact Nat.le_of_ble_eq_true rfl | (simp only [List.length_cons, List.length_nil]; omega))
  | ((with_reducible refine bi_fmod ?_); first | with_reducible assumption | decide +kernel)
  | ((with_reducible refine bi_fdivf ?_); first | with_reducible assumption | decide +kernel)
  | ((with_reducible refine bi_sub_fi ?_); with_reducible assumption)
  | ((with_reducible refine bi_mul_if ?_); decide +kernel))
local macro_rules | `(tactic| walk_at "cm") => `(tactic| first | (with_reducible exact cm_eq) | (with_reducible exact cm_ne) | (with_reducible exact cm_lt) | (with_reducible exact cm_ge) | (with_reducible exact cm_feq) | (with_reducible exact cm_flt) | (with_reducible exact cm_fle) | (with_reducible exact cm_flt_i) | (with_reducible exact cm_fge_i) | (with_reducible exact cm_seq) | (with_reducible exact cm_sne) | (with_reducible exact cm_isnot))
local macro_rules | `(tactic| walk_at "fn") => `(tactic| first | (with_reducible exact fn_max3) | (with_reducible exact fn_min3) | (with_reducible exact fn_min3i) | ((with_reducible refine fn_int ?_); with_reducible assumption) | with_reducible assumption)
local macro_rules | `(tactic| walk_at "el") => `(tactic| first | (with_reducible exact evL_nil) | ((with_reducible refine' evL_cons ?hl ?hr ?hs); (case hl => walk_at "ev"); (case hr => walk_at "el"); (case hs => (intro _; rfl))))
local macro_rules | `(tactic| walk_at "cp") => `(tactic| first | (with_reducible exact capt_nil) | ((with_reducible refine' capt_keep (by decide +kernel) ?h); (case h => walk_at "cp")) | ((with_reducible refine' capt_skip (by decide +kernel) ?h); (case h => walk_at "cp")))
local macro_rules | `(tactic| walk_at "src") => `(tactic| first
  | ((with_reducible refine' src_range3 (by assumption) ?hx ?hv ?he ?hk ?hs); (case hx => decide +kernel); (case hv => rfl); (case he => walk_at "ev"); (case hk => rfl); (case hs => (intro _; rfl)))
  | ((with_reducible refine' src_lst ?h); (case h => walk_at "ev"))
  | ((with_reducible refine' src_tup ?h); (case h => walk_at "ev")))
local macro_rules | `(tactic| walk_at "cl") => `(tactic| first
  | (with_reducible exact CompL.nil)
  | ((with_reducible refine' comp1 ?hx ?he ?hr ?hk); (case hx => decide +kernel); (case he => walk_at "ev"); (case hr => walk_at "cl"); (case hk => rfl)))
local macro_rules | `(tactic| walk_at "ev") => `(tactic| first
  | (with_reducible exact ev_int) | (with_reducible exact ev_float) | (with_reducible exact ev_str) | (with_reducible exact ev_bool)
  | ((with_reducible refine' ev_name ?hx ?hk ?hd ?hc); (case hx => walk_at "lk"); (case hk => rfl); (case hd => decide +kernel); (case hc => decide +kernel))
  | ((with_reducible refine' ev_bin ?hl ?hr ?ho); (case hl => walk_at "ev"); (case hr => walk_at "ev"); (case ho => walk_at "bi"))
  | ((with_reducible refine' ev_cmp ?hl ?hr ?ho ?hm); (case hl => walk_at "ev"); (case hr => walk_at "ev"); (case ho => walk_at "cm"); (case hm => with_unfolding_all rfl))
  | ((with_reducible refine' ev_tuple ?hl ?hz); (case hl => walk_at "el"); (case hz => exact Nat.le_of_ble_eq_true rfl))
  | ((with_reducible refine' ev_list ?hl ?hz); (case hl => walk_at "el"); (case hz => exact Nat.le_of_ble_eq_true rfl))
  | ((with_reducible refine' ev_neg ?hl); (case hl => walk_at "ev"))
  | ((with_reducible refine' ev_item ?hv ?hi ?h0 ?h1 ?hx ?hs); (case hv => walk_at "ev"); (case hi => walk_at "ev"); (case h0 => decide); (case h1 => decide); (case hx => rfl); (case hs => (intro _ _; rfl)))
  | ((with_reducible refine' ev_itemN ?hv ?hi ?h1 ?hx ?hs); (case hv => walk_at "ev"); (case hi => walk_at "ev"); (case h1 => omega); (case hx => with_reducible assumption); (case hs => (intro _ _; rfl)))
  | ((with_reducible refine' ev_compC ?src ?cp ?cl ?hl ?ho ?hc ?hs); (case src => walk_at "src"); (case cp => walk_at "cp"); (case cl => walk_at "cl"); (case hl => exact Nat.le_of_ble_eq_true rfl); (case ho => decide +kernel); (case hc => rfl); (case hs => (intro _ _; rfl)))
  | ((with_reducible refine' ev_globFloat (by assumption) ?hx ?hv ?hk ?hd); (case hx => decide +kernel); (case hv => rfl); (case hk => rfl); (case hd => decide +kernel))
  | ((with_reducible refine' ev_builtin (by assumption) ?hx ?hv ?hb ?ha ?hc ?hn ?hk ?hd ?hs ?hp); (case hx => decide +kernel); (case hv => rfl); (case hb => with_unfolding_all rfl); (case ha => walk_at "el"); (case hc => walk_at "fn"); (case hn => decide +kernel); (case hk => rfl); (case hd => decide +kernel); (case hs => (intro _; rfl)); (case hp => (intro _; rfl)))
  | ((with_reducible refine' ev_type (by assumption) ?hx ?hv ?hb ?ha ?hc ?hn ?hk ?hd ?hs ?hp); (case hx => decide +kernel); (case hv => rfl); (case hb => with_unfolding_all rfl); (case ha => walk_at "el"); (case hc => walk_at "fn"); (case hn => decide +kernel); (case hk => rfl); (case hd => decide +kernel); (case hs => (intro _; rfl)); (case hp => (intro _; rfl)))
  | ((with_reducible refine' ev_call (by assumption) ?hx ?hv ?hf ?ha ?hc ?hk ?hd ?hs); (case hx => decide +kernel); (case hv => rfl); (case hf => rfl); (case ha => walk_at "el"); (case hc => walk_at "fn"); (case hk => rfl); (case hd => decide +kernel); (case hs => (intro _; rfl))))
local macro_rules | `(tactic| walk_at "to") => `(tactic| first | ((with_reducible refine' trOr_one ?h); (case h => walk_at "tr")) | ((with_reducible refine' trOr_cons ?h ?r); (case h => walk_at "tr"); (case r => (intro _; walk_at "to"))))
local macro_rules | `(tactic| walk_at "ta") => `(tactic| first | ((with_reducible refine' trAnd_one ?h); (case h => walk_at "tr")) | ((with_reducible refine' trAnd_cons ?h ?r); (case h => walk_at "tr"); (case r => (intro _; walk_at "ta"))))
local macro_rules | `(tactic| walk_at "tr") => `(tactic| first
  | ((with_reducible refine' tr_cmp ?hl ?hr ?ho ?hm); (case hl => walk_at "ev"); (case hr => walk_at "ev"); (case ho => walk_at "cm"); (case hm => with_unfolding_all rfl))
  | ((with_reducible refine' tr_or ?h); (case h => walk_at "to"))
  | ((with_reducible refine' tr_and ?h); (case h => walk_at "ta"))
  | ((with_reducible refine' tr_not ?h); (case h => walk_at "tr"))
  | ((with_reducible refine' tr_bool ?h ?hp); (case h => walk_at "ev"); (case hp => (intro _ _; rfl))))
local macro_rules | `(tactic| walk_at "fin") => `(tactic| (first | (with_reducible rfl) | rfl))
local macro_rules | `(tactic| walk_at "ex") => `(tactic| first
  | ((with_reducible refine' ex_assign ?a ?b ?c ?d); (case a => walk_at "ev"); (case b => decide +kernel); (case c => walk_at "sw"); walk_at "ex")
  | ((with_reducible refine' ex_if ?a ?b ?c); (case a => walk_at "tr");
     (case b => (intro hb; first | exact absurd (hb.symm.trans (by with_reducible assumption : _ = false)) (by decide) | (dsimp only [List.cons_append, List.nil_append]; walk_at "ex")));
     (case c => (intro hb; first | exact absurd (hb.symm.trans (by with_reducible assumption : _ = true)) (by decide) | (dsimp only [List.cons_append, List.nil_append]; walk_at "ex"))))
  | ((with_reducible refine' ex_ret_cast ?a ?b); (case a => walk_at "ev"); (case b => walk_at "fin"))
  | (exfalso; (simp only [beq_eq_false_iff_ne, ne_eq] at *); omega))
local macro_rules | `(tactic| walk_at "as") => `(tactic| ((with_reducible refine' ex_assign ?a ?b ?c ?d); (case a => walk_at "ev"); (case b => decide +kernel); (case c => walk_at "sw")))
section
def c10 : UInt64 := 4607182418800017408
def c05 : UInt64 := 4602678819172646912
def c20 : UInt64 := 4611686018427387904
def c40 : UInt64 := 4616189618054758400
def c60 : UInt64 := 4618441417868443648
def k13 : UInt64 := 4599676419421066581
def k16 : UInt64 := 4595172819793696085
def k23 : UInt64 := 4604180019048437077
def vF (m1 m2 hue : UInt64) : UInt64 :=
  let h := (Float64.divmod hue c10).2
  if Float64.cmp h k16 == some .lt then Float64.add m1 (Float64.mul (Float64.mul (Float64.sub m2 m1) h) c60) else
  if Float64.cmp h c05 == some .lt then m2 else
  if Float64.cmp h k23 == some .lt then Float64.add m1 (Float64.mul (Float64.mul (Float64.sub m2 m1) (Float64.sub k23 h)) c60) else m1
/-- the hue, of both ways -/
def hueF (r g b : UInt64) : UInt64 :=
  let maxc := fmax3 r g b
  let rangec := Float64.sub maxc (fmin3 r g b)
  let rc := Float64.div (Float64.sub maxc r) rangec
  let gc := Float64.div (Float64.sub maxc g) rangec
  let bc := Float64.div (Float64.sub maxc b) rangec
  let h := if Float64.cmp r maxc == some .eq then Float64.sub bc gc else if Float64.cmp g maxc == some .eq then Float64.sub (Float64.add c20 rc) bc else Float64.sub (Float64.add c40 gc) rc
  (Float64.divmod (Float64.div h c60) c10).2
abbrev f6 (h : UInt64) : UInt64 := Float64.mul h c60
abbrev i6 (h : UInt64) : Int := PySem.Flt.toInt Float64.truncOf (f6 h)
def rgbF (h s v : UInt64) : List UInt64 :=
  let f := Float64.sub (f6 h) (Float64.ofInt (i6 h))
  let p := Float64.mul v (Float64.sub c10 s)
  let q := Float64.mul v (Float64.sub c10 (Float64.mul s f))
  let t := Float64.mul v (Float64.sub c10 (Float64.mul s (Float64.sub c10 f)))
  if (i6 h).fmod 6 == 0 then [v, t, p] else if (i6 h).fmod 6 == 1 then [q, v, p] else if (i6 h).fmod 6 == 2 then [p, v, t] else if (i6 h).fmod 6 == 3 then [p, q, v] else if (i6 h).fmod 6 == 4 then [t, p, v] else [v, p, q]
def m2F (l s : UInt64) : UInt64 := if Float64.cmp l c05 == some .lt || Float64.cmp l c05 == some .eq then Float64.mul l (Float64.add c10 s) else Float64.sub (Float64.add l s) (Float64.mul l s)
def m1F (l s : UInt64) : UInt64 := Float64.sub (Float64.mul c20 l) (m2F l s)

section
variable {prog : Program} {w : World} {h₀ : Heap}
local macro_rules | `(tactic| walk_at "fin") => `(tactic| (unfold vF; simp only [c10, c05, c60, k16, k23, *]; rfl))
theorem v_fn (C : Cx (hd.heap_39 w.params) h₀) (m1 m2 hue : UInt64) : Fn prog w h₀ 1 (.ref 85) [.flt m1, .flt m2, .flt hue] (.flt (vF m1 m2 hue)) := by
  refine fn_def C (params := [Str.ofString "m1", Str.ofString "m2", Str.ofString "hue"]) ⟨⟨_, _, rfl, rfl, rfl, rfl, rfl, rfl, rfl, ⟨_, _, _, _, rfl, rfl, rfl, rfl⟩, bind3 fun a b c => rfl⟩⟩ (by decide +kernel) rfl
    (σ := [(Str.ofString "hue", D.flt hue), (Str.ofString "m2", D.flt m2), (Str.ofString "m1", D.flt m1)]) rfl ?_
  dsimp only
  walk_at "ex"

local macro_rules | `(tactic| walk_at "fn") => `(tactic| (with_reducible exact v_fn (by assumption) _ _ _))
theorem hsv_eq (C : Cx (hd.heap_39 w.params) h₀) (r g b : UInt64) (he : (Float64.cmp (fmin3 r g b) (fmax3 r g b) == some .eq) = true) : Fn prog w h₀ 1 (.ref 92) [.flt r, .flt g, .flt b] (.tup [.flt 0, .flt 0, .flt (fmax3 r g b)]) := by
  refine fn_def C (params := [Str.ofString "r", Str.ofString "g", Str.ofString "b"]) ⟨⟨_, _, rfl, rfl, rfl, rfl, rfl, rfl, rfl, ⟨_, _, _, _, rfl, rfl, rfl, rfl⟩, bind3 fun a b c => rfl⟩⟩ (by decide +kernel) rfl
    (σ := [(Str.ofString "b", D.flt b), (Str.ofString "g", D.flt g), (Str.ofString "r", D.flt r)]) rfl ?_
  dsimp only
  walk_at "ex"
local macro_rules | `(tactic| walk_at "fin") => `(tactic| (unfold hueF; simp only [c10, c20, c40, c60, *]; rfl))
theorem hsv_ne (C : Cx (hd.heap_39 w.params) h₀) (r g b : UInt64) (he : (Float64.cmp (fmin3 r g b) (fmax3 r g b) == some .eq) = false) (h1 : Float64.isZero (fmax3 r g b) = false) (h2 : Float64.isZero (Float64.sub (fmax3 r g b) (fmin3 r g b)) = false) :
    Fn prog w h₀ 1 (.ref 92) [.flt r, .flt g, .flt b] (.tup [.flt (hueF r g b), .flt (Float64.div (Float64.sub (fmax3 r g b) (fmin3 r g b)) (fmax3 r g b)), .flt (fmax3 r g b)]) := by
  refine fn_def C (params := [Str.ofString "r", Str.ofString "g", Str.ofString "b"]) ⟨⟨_, _, rfl, rfl, rfl, rfl, rfl, rfl, rfl, ⟨_, _, _, _, rfl, rfl, rfl, rfl⟩, bind3 fun a b c => rfl⟩⟩ (by decide +kernel) rfl
    (σ := [(Str.ofString "b", D.flt b), (Str.ofString "g", D.flt g), (Str.ofString "r", D.flt r)]) rfl ?_
  dsimp only
  walk_at "ex"
theorem rgb_eq (C : Cx (hd.heap_39 w.params) h₀) (h s v : UInt64) (he : (Float64.cmp s 0 == some .eq) = true) : Fn prog w h₀ 1 (.ref 99) [.flt h, .flt s, .flt v] (.tup [.flt v, .flt v, .flt v]) := by
  refine fn_def C (params := [Str.ofString "h", Str.ofString "s", Str.ofString "v"]) ⟨⟨_, _, rfl, rfl, rfl, rfl, rfl, rfl, rfl, ⟨_, _, _, _, rfl, rfl, rfl, rfl⟩, bind3 fun a b c => rfl⟩⟩ (by decide +kernel) rfl
    (σ := [(Str.ofString "v", D.flt v), (Str.ofString "s", D.flt s), (Str.ofString "h", D.flt h)]) rfl ?_
  dsimp only
  walk_at "ex"
theorem fmod6 (x : Int) : 0 ≤ x.fmod 6 ∧ x.fmod 6 < 6 := ⟨Int.fmod_nonneg_of_pos _ (by decide), Int.fmod_lt_of_pos _ (by decide)⟩
local macro_rules | `(tactic| walk_at "fin") => `(tactic| (unfold rgbF i6 f6; simp only [c10, c60, *]; rfl))
theorem rgb_ne (C : Cx (hd.heap_39 w.params) h₀) (h s v : UInt64) (he : (Float64.cmp s 0 == some .eq) = false) (h1 : Float64.isFinite (f6 h) = true) (h2 : (i6 h).natAbs < 2 ^ 1023) :
    Fn prog w h₀ 1 (.ref 99) [.flt h, .flt s, .flt v] (.tup ((rgbF h s v).map .flt)) := by
  have h3 := fmod6 (i6 h)
  unfold i6 f6 c60 at h3
  unfold i6 at h2
  unfold f6 c60 at h1 h2
  refine fn_def C (params := [Str.ofString "h", Str.ofString "s", Str.ofString "v"]) ⟨⟨_, _, rfl, rfl, rfl, rfl, rfl, rfl, rfl, ⟨_, _, _, _, rfl, rfl, rfl, rfl⟩, bind3 fun a b c => rfl⟩⟩ (by decide +kernel) rfl
    (σ := [(Str.ofString "v", D.flt v), (Str.ofString "s", D.flt s), (Str.ofString "h", D.flt h)]) rfl ?_
  dsimp only
  walk_at "ex"
theorem hls_eq (C : Cx (hd.heap_39 w.params) h₀) (r g b : UInt64) (he : (Float64.cmp (fmin3 r g b) (fmax3 r g b) == some .eq) = true) :
    Fn prog w h₀ 1 (.ref 71) [.flt r, .flt g, .flt b] (.tup [.flt 0, .flt (Float64.div (Float64.add (fmax3 r g b) (fmin3 r g b)) c20), .flt 0]) := by
  refine fn_def C (params := [Str.ofString "r", Str.ofString "g", Str.ofString "b"]) ⟨⟨_, _, rfl, rfl, rfl, rfl, rfl, rfl, rfl, ⟨_, _, _, _, rfl, rfl, rfl, rfl⟩, bind3 fun a b c => rfl⟩⟩ (by decide +kernel) rfl
    (σ := [(Str.ofString "b", D.flt b), (Str.ofString "g", D.flt g), (Str.ofString "r", D.flt r)]) rfl ?_
  dsimp only
  walk_at "ex"
def lF (r g b : UInt64) : UInt64 := Float64.div (Float64.add (fmax3 r g b) (fmin3 r g b)) c20
def sLo (r g b : UInt64) : UInt64 := Float64.div (Float64.sub (fmax3 r g b) (fmin3 r g b)) (Float64.add (fmax3 r g b) (fmin3 r g b))
def sHi (r g b : UInt64) : UInt64 := Float64.div (Float64.sub (fmax3 r g b) (fmin3 r g b)) (Float64.sub (Float64.sub c20 (fmax3 r g b)) (fmin3 r g b))
local macro_rules | `(tactic| walk_at "fin") => `(tactic| (unfold hueF lF sLo; simp only [c10, c20, c40, c60, *]; rfl))
theorem hls_lo (C : Cx (hd.heap_39 w.params) h₀) (r g b : UInt64) (he : (Float64.cmp (fmin3 r g b) (fmax3 r g b) == some .eq) = false) (hl : (Float64.cmp (lF r g b) c05 == some .lt || Float64.cmp (lF r g b) c05 == some .eq) = true)
    (h1 : Float64.isZero (Float64.add (fmax3 r g b) (fmin3 r g b)) = false) (h2 : Float64.isZero (Float64.sub (fmax3 r g b) (fmin3 r g b)) = false) :
    Fn prog w h₀ 1 (.ref 71) [.flt r, .flt g, .flt b] (.tup [.flt (hueF r g b), .flt (lF r g b), .flt (sLo r g b)]) := by
  unfold lF c20 c05 at hl
  refine fn_def C (params := [Str.ofString "r", Str.ofString "g", Str.ofString "b"]) ⟨⟨_, _, rfl, rfl, rfl, rfl, rfl, rfl, rfl, ⟨_, _, _, _, rfl, rfl, rfl, rfl⟩, bind3 fun a b c => rfl⟩⟩ (by decide +kernel) rfl
    (σ := [(Str.ofString "b", D.flt b), (Str.ofString "g", D.flt g), (Str.ofString "r", D.flt r)]) rfl ?_
  dsimp only
  walk_at "ex"
local macro_rules | `(tactic| walk_at "fin") => `(tactic| (unfold hueF lF sHi; simp only [c10, c20, c40, c60, *]; rfl))
theorem hls_hi (C : Cx (hd.heap_39 w.params) h₀) (r g b : UInt64) (he : (Float64.cmp (fmin3 r g b) (fmax3 r g b) == some .eq) = false) (hl : (Float64.cmp (lF r g b) c05 == some .lt || Float64.cmp (lF r g b) c05 == some .eq) = false)
    (h1 : Float64.isZero (Float64.sub (Float64.sub c20 (fmax3 r g b)) (fmin3 r g b)) = false) (h2 : Float64.isZero (Float64.sub (fmax3 r g b) (fmin3 r g b)) = false) :
    Fn prog w h₀ 1 (.ref 71) [.flt r, .flt g, .flt b] (.tup [.flt (hueF r g b), .flt (lF r g b), .flt (sHi r g b)]) := by
  unfold lF c20 c05 at hl
  unfold c20 at h1
  refine fn_def C (params := [Str.ofString "r", Str.ofString "g", Str.ofString "b"]) ⟨⟨_, _, rfl, rfl, rfl, rfl, rfl, rfl, rfl, ⟨_, _, _, _, rfl, rfl, rfl, rfl⟩, bind3 fun a b c => rfl⟩⟩ (by decide +kernel) rfl
    (σ := [(Str.ofString "b", D.flt b), (Str.ofString "g", D.flt g), (Str.ofString "r", D.flt r)]) rfl ?_
  dsimp only
  walk_at "ex"
theorem back_eq (C : Cx (hd.heap_39 w.params) h₀) (h l s : UInt64) (he : (Float64.cmp s 0 == some .eq) = true) : Fn prog w h₀ 2 (.ref 78) [.flt h, .flt l, .flt s] (.tup [.flt l, .flt l, .flt l]) := by
  refine fn_def C (params := [Str.ofString "h", Str.ofString "l", Str.ofString "s"]) ⟨⟨_, _, rfl, rfl, rfl, rfl, rfl, rfl, rfl, ⟨_, _, _, _, rfl, rfl, rfl, rfl⟩, bind3 fun a b c => rfl⟩⟩ (by decide +kernel) rfl
    (σ := [(Str.ofString "s", D.flt s), (Str.ofString "l", D.flt l), (Str.ofString "h", D.flt h)]) rfl ?_
  dsimp only
  walk_at "ex"
local macro_rules | `(tactic| walk_at "fin") => `(tactic| (unfold m1F m2F; simp only [c10, c20, c05, k13, *]; rfl))
theorem back_ne (C : Cx (hd.heap_39 w.params) h₀) (h l s : UInt64) (he : (Float64.cmp s 0 == some .eq) = false) :
    Fn prog w h₀ 2 (.ref 78) [.flt h, .flt l, .flt s] (.tup [.flt (vF (m1F l s) (m2F l s) (Float64.add h k13)), .flt (vF (m1F l s) (m2F l s) h), .flt (vF (m1F l s) (m2F l s) (Float64.sub h k13))]) := by
  refine fn_def C (params := [Str.ofString "h", Str.ofString "l", Str.ofString "s"]) ⟨⟨_, _, rfl, rfl, rfl, rfl, rfl, rfl, rfl, ⟨_, _, _, _, rfl, rfl, rfl, rfl⟩, bind3 fun a b c => rfl⟩⟩ (by decide +kernel) rfl
    (σ := [(Str.ofString "s", D.flt s), (Str.ofString "l", D.flt l), (Str.ofString "h", D.flt h)]) rfl ?_
  dsimp only
  walk_at "ex"
end
end
section

def lit (k : Nat) : UInt64 := Float64.ofFrac false k 32
section
variable {prog : Program} {w : World} {h₀ : Heap}
theorem lit_fn (C : Cx (hd.heap_39 w.params) h₀) {a b c v : Int} {x y z : Nat} (hx : a - leastOf [a, b, c] + v = x) (hy : b - leastOf [a, b, c] + v = y) (hz : c - leastOf [a, b, c] + v = z)
    (h1 : x ≤ 1000) (h2 : y ≤ 1000) (h3 : z ≤ 1000) :
    Fn prog w h₀ 1 (.ref 104) [.lst [.int a, .int b, .int c], .int v] (.lst [.flt (lit x), .flt (lit y), .flt (lit z)]) := by
  have big : (1001 : Nat) < 2 ^ 1023 := by decide +kernel
  have n1 : (a - leastOf [a, b, c] + v).natAbs < 2 ^ 1023 := by rw [hx]; exact Nat.lt_trans (by omega) big
  have n2 : (b - leastOf [a, b, c] + v).natAbs < 2 ^ 1023 := by rw [hy]; exact Nat.lt_trans (by omega) big
  have n3 : (c - leastOf [a, b, c] + v).natAbs < 2 ^ 1023 := by rw [hz]; exact Nat.lt_trans (by omega) big
  refine fn_def C (params := [Str.ofString "parts", Str.ofString "white"]) ⟨⟨_, _, rfl, rfl, rfl, rfl, rfl, rfl, rfl, ⟨_, _, _, _, rfl, rfl, rfl, rfl⟩, bind2 fun a b => rfl⟩⟩ (by decide +kernel) rfl
    (σ := [(Str.ofString "white", D.int v), (Str.ofString "parts", .lst [.int a, .int b, .int c])]) rfl ?_
  dsimp only
  refine' ex_ret_cast ?h1 ?h2
  case h1 => walk_at "ev"
  case h2 => rw [hx, hy, hz]; rfl
end
end
section

abbrev sixth : UInt64 := Float64.ofFrac (decide ((1 : Int) < 0) != decide ((6 : Int) < 0)) (Int.natAbs 1) (Int.natAbs 6)
abbrev rnd (u : UInt64) : UInt64 := Float64.add (Float64.mul (Float64.ofInt 32) u) 4602678819172646912
abbrev inR (u : UInt64) : Int := PySem.Flt.toInt Float64.truncOf (rnd u)
/-- the turn by +1/6 of hsv, as a fact about floats and two calls -/
structure HsvTurn (x y z : Nat) (t0 t1 t2 : Int) : Prop where
  a : ∃ H S V u0 u1 u2 : UInt64, (∀ {prog : Program} {w : World} {h₀ : Heap}, Cx (hd.heap_39 w.params) h₀ → Fn prog w h₀ 1 (.ref 92) [.flt (lit x), .flt (lit y), .flt (lit z)] (.tup [.flt H, .flt S, .flt V])) ∧
    (∀ {prog : Program} {w : World} {h₀ : Heap}, Cx (hd.heap_39 w.params) h₀ → Fn prog w h₀ 1 (.ref 99) [.flt (Float64.add H sixth), .flt S, .flt V] (.tup [.flt u0, .flt u1, .flt u2])) ∧
    Float64.isFinite (rnd u0) = true ∧ Float64.isFinite (rnd u1) = true ∧ Float64.isFinite (rnd u2) = true ∧ inR u0 = t0 ∧ inR u1 = t1 ∧ inR u2 = t2 ∧
    (Float64.cmpInt H 0 == some .lt) = false ∧ (Float64.cmpInt H 1 == some .gt || Float64.cmpInt H 1 == some .eq) = false
structure HlsTurn (x y z : Nat) (t0 t1 t2 : Int) : Prop where
  a : ∃ H L S u0 u1 u2 : UInt64, (∀ {prog : Program} {w : World} {h₀ : Heap}, Cx (hd.heap_39 w.params) h₀ → Fn prog w h₀ 1 (.ref 71) [.flt (lit x), .flt (lit y), .flt (lit z)] (.tup [.flt H, .flt L, .flt S])) ∧
    (∀ {prog : Program} {w : World} {h₀ : Heap}, Cx (hd.heap_39 w.params) h₀ → Fn prog w h₀ 2 (.ref 78) [.flt (Float64.sub H sixth), .flt L, .flt S] (.tup [.flt u0, .flt u1, .flt u2])) ∧
    Float64.isFinite (rnd u0) = true ∧ Float64.isFinite (rnd u1) = true ∧ Float64.isFinite (rnd u2) = true ∧ inR u0 = t0 ∧ inR u1 = t1 ∧ inR u2 = t2 ∧
    (Float64.cmpInt H 0 == some .lt) = false ∧ (Float64.cmpInt H 1 == some .gt || Float64.cmpInt H 1 == some .eq) = false

structure Tri where
  a : Int
  b : Int
  c : Int
abbrev Tri.d (t : Tri) : D := .lst [.int t.a, .int t.b, .int t.c]
abbrev Tri.least (t : Tri) : Int := leastOf [t.a, t.b, t.c]
/-- one step of the spelling -/
structure SpStep (v : Int) (p q : Tri) (f : Int) : Prop where
  go : ∃ (r t : Tri) (x y z : Nat), (p.a + 2 * p.b + 4 * p.c).fmod 7 = f ∧
    p.a - (f.fdiv (2 ^ 0)).fmod 2 = r.a ∧ p.b - (f.fdiv (2 ^ 1)).fmod 2 = r.b ∧ p.c - (f.fdiv (2 ^ 2)).fmod 2 = r.c ∧
    r.a - r.least + v = x ∧ r.b - r.least + v = y ∧ r.c - r.least + v = z ∧ x ≤ 1000 ∧ y ≤ 1000 ∧ z ≤ 1000 ∧ HsvTurn x y z t.a t.b t.c ∧ t.least = v ∧
    (2 * r.a + t.a - leastOf [2 * r.a + t.a, 2 * r.b + t.b, 2 * r.c + t.c]).fdiv 7 = q.a ∧ (2 * r.b + t.b - leastOf [2 * r.a + t.a, 2 * r.b + t.b, 2 * r.c + t.c]).fdiv 7 = q.b ∧ (2 * r.c + t.c - leastOf [2 * r.a + t.a, 2 * r.b + t.b, 2 * r.c + t.c]).fdiv 7 = q.c ∧
    7 * q.a + leastOf [2 * r.a + t.a, 2 * r.b + t.b, 2 * r.c + t.c] = 2 * r.a + t.a ∧ 7 * q.b + leastOf [2 * r.a + t.a, 2 * r.b + t.b, 2 * r.c + t.c] = 2 * r.b + t.b ∧ 7 * q.c + leastOf [2 * r.a + t.a, 2 * r.b + t.b, 2 * r.c + t.c] = 2 * r.c + t.c

section
variable {prog : Program} {w : World} {h₀ : Heap} {n : Nat}
abbrev spSt (p : Tri) (v : Int) (figs : List D) : Sto := [(Str.ofString "figures", .lst figs), (Str.ofString "parts", p.d), (Str.ofString "white", .int v)]
theorem spell_loop {sc : Scope} {body : List Stmt} {v : Int} {p q r s : Tri} {f g e : Int} (hp : SpStep v p q f) (hq : SpStep v q r g) (hr : SpStep v r s e)
    (turn : ∀ (k : Int) (p q : Tri) (f : Int) (figs : List D), figs.length ≤ 3 → SpStep v p q f → Ex prog w h₀ n sc ((Str.ofString "step", .int k) :: spSt p v figs) body (.next (spSt q v (.int f :: figs)))) :
    ForL prog w h₀ n sc (Str.ofString "step") body (spSt p v []) [.int 0, .int 1, .int 2] (.next (spSt s v [.int e, .int g, .int f])) :=
  .cons (turn 0 p q f [] (by decide) hp) (.cons (turn 1 q r g [.int f] (by show 1 ≤ 3; decide) hq) (.cons (turn 2 r s e [.int g, .int f] (by show 2 ≤ 3; decide) hr) .nil))

local macro_rules | `(tactic| walk_at "un") => `(tactic| first
  | ((with_reducible refine' ex_unpack3l ?h ?hx ?hr ?hs ?hw ?ha ?hk); (case h => walk_at "ev"); (case hx => decide +kernel); (case hs => (intro _; rfl)); (case hw => (intro _; rfl)); (case ha => (intro _; rfl)); (case hk => rfl))
  | ((with_reducible refine' ex_unpack3t ?h ?hx ?hr ?hs ?hw ?ha ?hk); (case h => walk_at "ev"); (case hx => decide +kernel); (case hs => (intro _; rfl)); (case hw => (intro _; rfl)); (case ha => (intro _; rfl)); (case hk => rfl)))

theorem spelled_fn (C : Cx (hd.heap_39 w.params) h₀) {v : Int} {p q r s : Tri} {f g e : Int} (hp : SpStep v p q f) (hq : SpStep v q r g) (hr : SpStep v r s e) :
    Fn prog w h₀ 2 (.ref 109) [p.d, .int v] (.tup [.lst [.int e, .int g, .int f], s.d]) := by
  refine fn_def C (params := [Str.ofString "parts", Str.ofString "white"]) ⟨⟨_, _, rfl, rfl, rfl, rfl, rfl, rfl, rfl, ⟨_, _, _, _, rfl, rfl, rfl, rfl⟩, bind2 fun a b => rfl⟩⟩ (by decide +kernel) rfl
    (σ := [(Str.ofString "white", D.int v), (Str.ofString "parts", p.d)]) rfl ?_
  dsimp only
  walk_at "as"
  refine ex_sub1 (τ := spSt p v []) ?_ (sub_cons rfl (sub_cons rfl (sub_cons rfl sub_nil)))
  refine' ex_for (src_range3 C (by decide +kernel) rfl ?hs1 rfl ?hs2) (spell_loop hp hq hr ?turn) (by decide +kernel) ?hrest (by intro _ _; rfl)
  case hs1 => walk_at "ev"
  case hs2 => intro _; rfl
  case hrest => walk_at "ex"
  case turn =>
    intro k p q f figs hfl st
    obtain ⟨r, t, x, y, z, hf, hr0, hr1, hr2, hx, hy, hz, bx, by', bz, hsv, hmin, hq0, hq1, hq2, e0, e1, e2⟩ := st.go
    obtain ⟨H, S, V, u0, u1, u2, F1, F2, fi0, fi1, fi2, i0, i1, i2, c1, c2⟩ := hsv.a
    have G0 := lit_fn (prog := prog) C hx hy hz bx by' bz
    have G1 := F1 (prog := prog) C
    have G2 := F2 (prog := prog) C
    -- figure
    refine' ex_assign (d := .int f) (Ev.cast ?f1 ?f2) ?f3 ?f4 ?f5
    case f1 => walk_at "ev"
    case f2 => rw [hf]
    case f3 => decide +kernel
    case f4 => walk_at "sw"
    -- rest
    refine' ex_assign (d := r.d) (Ev.cast ?g1 ?g2) ?g3 ?g4 ?g5
    case g1 => walk_at "ev"
    case g2 => show _ = D.lst [.int r.a, .int r.b, .int r.c]; rw [← hr0, ← hr1, ← hr2]; rfl
    case g3 => decide +kernel
    case g4 => walk_at "sw"
    walk_at "un"
    walk_at "un"
    refine' ex_assign (d := t.d) (Ev.cast ?k1 ?k2) ?k3 ?k4 ?k5
    case k1 => walk_at "ev"
    case k2 => show _ = D.lst [.int t.a, .int t.b, .int t.c]; rw [← i0, ← i1, ← i2]
    case k3 => decide +kernel
    case k4 => walk_at "sw"
    -- sums
    refine' ex_assign (d := .lst [.int (2 * r.a + t.a), .int (2 * r.b + t.b), .int (2 * r.c + t.c)]) ?l1 ?l3 ?l4 ?l5
    case l1 => walk_at "ev"
    case l3 => decide +kernel
    case l4 => walk_at "sw"
    -- parts
    refine' ex_assign (d := q.d) (Ev.cast ?m1 ?m2) ?m3 ?m4 ?m5
    case m1 => walk_at "ev"
    case m2 => show _ = D.lst [.int q.a, .int q.b, .int q.c]; rw [hq0, hq1, hq2]
    case m3 => decide +kernel
    case m4 => walk_at "sw"
    -- the test
    refine' ex_if_no0 (tr_or (trOr_false (tr_cast ?t1 c1) (trOr_false (tr_cast ?t2 c2) (trOr_false (tr_cast ?t3 ?t3e) (trOr_one (tr_cmp ?t4 (Ev.cast ?t5 ?t6) cm_ints_ne (by with_unfolding_all rfl))))))) ?rest
    case t1 => walk_at "tr"
    case t2 => walk_at "tr"
    case t3 => walk_at "tr"
    case t3e => rw [show leastOf [t.a, t.b, t.c] = v from hmin]; exact bne_self_eq_false v
    case t4 => walk_at "ev"
    case t5 => walk_at "ev"
    case t6 => rw [e0, e1, e2]
    -- figures
    refine' ex_assign (d := .lst (.int f :: figs)) (Ev.cast ?n1 ?n2) ?n3 ?n4 ?n5
    case n1 => walk_at "ev"
    case n2 => rfl
    case n3 => decide +kernel
    case n4 => walk_at "sw"
    exact ex_end (sub_cons rfl (sub_cons rfl (sub_cons rfl sub_nil)))
end
end
section

/-- one step of the painting -/
structure PtStep (v : Int) (p q : Tri) (f : Int) : Prop where
  go : ∃ (t : Tri) (x y z : Nat), p.a - p.least + v = x ∧ p.b - p.least + v = y ∧ p.c - p.least + v = z ∧ x ≤ 1000 ∧ y ≤ 1000 ∧ z ≤ 1000 ∧ HlsTurn x y z t.a t.b t.c ∧ t.least = v ∧
    2 * p.a + t.a + (f.fdiv (2 ^ 0)).fmod 2 = q.a ∧ 2 * p.b + t.b + (f.fdiv (2 ^ 1)).fmod 2 = q.b ∧ 2 * p.c + t.c + (f.fdiv (2 ^ 2)).fmod 2 = q.c

section
variable {prog : Program} {w : World} {h₀ : Heap} {n : Nat}
abbrev ptSt (p : Tri) (v : Int) : Sto := [(Str.ofString "parts", p.d), (Str.ofString "white", .int v)]
theorem paint_loop {sc : Scope} {body : List Stmt} {v : Int} {p q r s : Tri} {f g e : Int} (hp : PtStep v p q f) (hq : PtStep v q r g) (hr : PtStep v r s e)
    (turn : ∀ (p q : Tri) (f : Int), PtStep v p q f → Ex prog w h₀ n sc ((Str.ofString "figure", .int f) :: ptSt p v) body (.next (ptSt q v))) :
    ForL prog w h₀ n sc (Str.ofString "figure") body (ptSt p v) [.int f, .int g, .int e] (.next (ptSt s v)) :=
  .cons (turn p q f hp) (.cons (turn q r g hq) (.cons (turn r s e hr) .nil))

local macro_rules | `(tactic| walk_at "un") => `(tactic| first
  | ((with_reducible refine' ex_unpack3l ?h ?hx ?hr ?hs ?hw ?ha ?hk); (case h => walk_at "ev"); (case hx => decide +kernel); (case hs => (intro _; rfl)); (case hw => (intro _; rfl)); (case ha => (intro _; rfl)); (case hk => rfl))
  | ((with_reducible refine' ex_unpack3t ?h ?hx ?hr ?hs ?hw ?ha ?hk); (case h => walk_at "ev"); (case hx => decide +kernel); (case hs => (intro _; rfl)); (case hw => (intro _; rfl)); (case ha => (intro _; rfl)); (case hk => rfl)))

theorem painted_fn (C : Cx (hd.heap_39 w.params) h₀) {v : Int} {p q r s : Tri} {f g e : Int} (hp : PtStep v p q f) (hq : PtStep v q r g) (hr : PtStep v r s e) :
    Fn prog w h₀ 3 (.ref 114) [.lst [.int f, .int g, .int e], p.d, .int v] (.lst [.int (s.a - s.least), .int (s.b - s.least), .int (s.c - s.least)]) := by
  refine fn_def C (params := [Str.ofString "figures", Str.ofString "parts", Str.ofString "white"]) ⟨⟨_, _, rfl, rfl, rfl, rfl, rfl, rfl, rfl, ⟨_, _, _, _, rfl, rfl, rfl, rfl⟩, bind3 fun a b c => rfl⟩⟩ (by decide +kernel) rfl
    (σ := [(Str.ofString "white", D.int v), (Str.ofString "parts", p.d), (Str.ofString "figures", .lst [.int f, .int g, .int e])]) rfl ?_
  dsimp only
  refine' ex_for (ds := [.int f, .int g, .int e]) (σ' := ptSt s v) (src_lst ?hs1) ?hl (by decide +kernel) ?hrest (by intro _ _; rfl)
  case hs1 => walk_at "ev"
  case hrest => walk_at "ex"
  case hl =>
    refine' forL_sub (paint_loop hp hq hr ?turn) (sub_cons rfl (sub_cons rfl sub_nil))
    case turn =>
    intro p q f st
    obtain ⟨t, x, y, z, hx, hy, hz, bx, by', bz, hls, hmin, hq0, hq1, hq2⟩ := st.go
    obtain ⟨H, L, S, u0, u1, u2, F1, F2, fi0, fi1, fi2, i0, i1, i2, c1, c2⟩ := hls.a
    have G0 := (lit_fn (prog := prog) C hx hy hz bx by' bz).mono (n := 2) (by decide)
    have G1 := (F1 (prog := prog) C).mono (n := 2) (by decide)
    have G2 := F2 (prog := prog) C
    walk_at "un"
    walk_at "un"
    refine' ex_assign (d := t.d) (Ev.cast ?k1 ?k2) ?k3 ?k4 ?k5
    case k1 => walk_at "ev"
    case k2 => show _ = D.lst [.int t.a, .int t.b, .int t.c]; rw [← i0, ← i1, ← i2]
    case k3 => decide +kernel
    case k4 => walk_at "sw"
    -- the test
    refine' ex_if_no0 (tr_or (trOr_false (tr_cast ?t1 c1) (trOr_false (tr_cast ?t2 c2) (trOr_one (tr_cast ?t3 ?t3e))))) ?rest
    case t1 => walk_at "tr"
    case t2 => walk_at "tr"
    case t3 => walk_at "tr"
    case t3e => rw [show leastOf [t.a, t.b, t.c] = v from hmin]; exact bne_self_eq_false v
    -- parts
    refine' ex_assign (d := q.d) (Ev.cast ?m1 ?m2) ?m3 ?m4 ?m5
    case m1 => walk_at "ev"
    case m2 => show _ = D.lst [.int q.a, .int q.b, .int q.c]; rw [← hq0, ← hq1, ← hq2]; rfl
    case m3 => decide +kernel
    case m4 => walk_at "sw"
    exact ex_end (sub_cons rfl (sub_cons rfl sub_nil))
end
end
section

section
variable {prog : Program} {w : World} {h₀ : Heap} {n : Nat}
abbrev ND (x : Str) : Prop := ∀ q ∈ x.cps, Sre.isDigit q = false
local macro_rules | `(tactic| walk_at "se") => `(tactic| ((with_reducible refine' tr_none (ev_search (by assumption) ?he ?hd ?hx ?hg ?hv ?hp ?hc ?hk ?hdb ?hl ?hs ?hb) ?ht); (case he => walk_at "ev"); (case hd => assumption); (case hx => assumption); (case hg => decide +kernel); (case hv => rfl); (case hp => exact ⟨_, _, _, _, rfl, rfl, rfl, rfl, rfl, rfl, rfl⟩); (case hc => exact ⟨_, _, _, rfl, rfl, by decide +kernel⟩); (case hk => rfl); (case hdb => decide +kernel); (case hl => rfl); (case hs => (intro _; rfl)); (case hb => (intro _; rfl)); (case ht => (intro _ _; rfl))))
theorem lib_fn (C : Cx (hd.heap_39 w.params) h₀) {x : Str} (hnd : ND x) (hlen : x.length ≤ 1000) : Fn prog w h₀ 1 (.ref 50) [.str x] (.bool true) := by
  refine fn_def C (params := [Str.ofString "text"]) ⟨⟨_, _, rfl, rfl, rfl, rfl, rfl, rfl, rfl, ⟨_, _, _, _, rfl, rfl, rfl, rfl⟩, bind1 fun a => rfl⟩⟩ (by decide +kernel) rfl
    (σ := [(Str.ofString "text", .str x)]) rfl ?_
  dsimp only
  refine' ex_if_no0 ?h ?h2
  case h => walk_at "se"
  case h2 => walk_at "ex"
theorem hdn_fn (C : Cx (hd.heap_39 w.params) h₀) {x : Str} {c c' : Nat} (hnd : ND x) (hlen : x.length ≤ 1000) (hne : (x == Str.ofString "") = false) (h0 : (seqIndex? 0 x.length).bind (x.cps[·]?) = some c) (h1 : (seqIndex? (-1) x.length).bind (x.cps[·]?) = some c')
    (hc : ((⟨#[c]⟩ : Str) == Str.ofString ".") = false) (hc' : ((⟨#[c']⟩ : Str) == Str.ofString ".") = false) : Fn prog w h₀ 1 (.ref 43) [.str x] (.bool true) := by
  refine fn_def C (params := [Str.ofString "text"]) ⟨⟨_, _, rfl, rfl, rfl, rfl, rfl, rfl, rfl, ⟨_, _, _, _, rfl, rfl, rfl, rfl⟩, bind1 fun a => rfl⟩⟩ (by decide +kernel) rfl
    (σ := [(Str.ofString "text", .str x)]) rfl ?_
  dsimp only
  refine' ex_if_no0 ?h ?h2
  case h => walk_at "se"
  refine' ex_if_no0 (tr_cast ?g1 hne) ?g2
  case g1 => walk_at "tr"
  refine' ex_if_no0 (tr_or (trOr_false (tr_cast (tr_cmp (ev_strItem ?a1 ?a2 (by decide) h0 (by intro _ _; rfl)) ?a3 ?a4) hc) (trOr_one (tr_cast (tr_cmp (ev_strItem ?b1 ?b2 (by decide) h1 (by intro _ _; rfl)) ?b3 ?b4) hc')))) ?k2
  case a1 => walk_at "ev"
  case a2 => walk_at "ev"
  case a3 => walk_at "ev"
  case a4 => walk_at "cm"
  case b1 => walk_at "ev"
  case b2 => walk_at "ev"
  case b3 => walk_at "ev"
  case b4 => walk_at "cm"
  walk_at "ex"

theorem udm_fn (C : Cx (hd.heap_39 w.params) h₀) {A B a b : Str} {r : Bool} (ha : Txt.lower A = a) (hb : Txt.lower B = b) (fa : PySem.Builtin.Str.tooLong (Txt.lower A).length = false) (fb : PySem.Builtin.Str.tooLong (Txt.lower B).length = false)
    (na : ND a) (nb : ND b) (la : a.length ≤ 1000) (lb : b.length ≤ 1000) (hr : (if Txt.startswith b (Str.ofString ".") = true then Txt.endswith a b else (a == b)) = r) :
    Fn prog w h₀ 2 (.ref 57) [.str A, .str B] (.bool r) := by
  have G1 := lib_fn (prog := prog) C na la
  have G2 := lib_fn (prog := prog) C nb lb
  refine fn_def C (params := [Str.ofString "A", Str.ofString "B"]) ⟨⟨_, _, rfl, rfl, rfl, rfl, rfl, rfl, rfl, ⟨_, _, _, _, rfl, rfl, rfl, rfl⟩, bind2 fun a b => rfl⟩⟩ (by decide +kernel) rfl
    (σ := [(Str.ofString "B", .str B), (Str.ofString "A", .str A)]) rfl ?_
  dsimp only
  refine' ex_assign (d := .str a) (Ev.cast (ev_lower ?a1 fa rfl (by intro _; rfl)) (by rw [ha])) ?a3 ?a4 ?a5
  case a1 => walk_at "ev"
  case a3 => decide +kernel
  case a4 => walk_at "sw"
  refine' ex_assign (d := .str b) (Ev.cast (ev_lower ?b1 fb rfl (by intro _; rfl)) (by rw [hb])) ?b3 ?b4 ?b5
  case b1 => walk_at "ev"
  case b3 => decide +kernel
  case b4 => walk_at "sw"
  refine' ex_if_no0 (tr_cast (tr_not (tr_and (trAnd_cons ?c1 (fun _ => trAnd_one ?c2)))) (b := !(true && true)) rfl) ?c3
  case c1 => walk_at "tr"
  case c2 => walk_at "tr"
  refine' ex_assign (d := .bool (Txt.startswith b (Str.ofString "."))) (ev_startswith ?d1 ?d2 rfl (by intro _; rfl) (by intro _; rfl)) ?d3 ?d4 ?d5
  case d1 => walk_at "ev"
  case d2 => walk_at "ev"
  case d3 => decide +kernel
  case d4 => walk_at "sw"
  cases hsw : Txt.startswith b (Str.ofString ".") with
  | true =>
    rw [hsw, if_pos rfl] at hr
    cases hew : Txt.endswith a b with
    | true =>
      refine' ex_if_yes (tr_cast (tr_and (trAnd_cons (b := true) ?e1 (fun _ => trAnd_one (b := true) (tr_cast (tr_bool (ev_endswith ?e2 ?e3 rfl (by intro _; rfl) (by intro _; rfl)) (by intro _ _; rfl)) hew)))) rfl) ?e4
      case e1 => walk_at "tr"
      case e2 => walk_at "ev"
      case e3 => walk_at "ev"
      refine' ex_ret_cast ?e5 ?e6
      case e5 => walk_at "ev"
      case e6 => rw [← hr, hew]
    | false =>
      refine' ex_if_no0 (tr_cast (tr_and (trAnd_cons (b := true) ?f1 (fun _ => trAnd_one (b := false) (tr_cast (tr_bool (ev_endswith ?f2 ?f3 rfl (by intro _; rfl) (by intro _; rfl)) (by intro _ _; rfl)) hew)))) rfl) ?f4
      case f1 => walk_at "tr"
      case f2 => walk_at "ev"
      case f3 => walk_at "ev"
      refine' ex_if_no0 (tr_cast (tr_and (trAnd_cons (b := false) (c := false) (tr_cast (tr_not (b := true) ?f5) rfl) (fun e => nomatch e))) rfl) ?f6
      case f5 => walk_at "tr"
      refine' ex_ret_cast ?f7 ?f8
      case f7 => walk_at "ev"
      case f8 => rw [← hr, hew]
  | false =>
    rw [hsw, if_neg Bool.false_ne_true] at hr
    refine' ex_if_no0 (tr_cast (tr_and (trAnd_cons (b := false) (c := false) ?g1 (fun e => nomatch e))) rfl) ?g2
    case g1 => walk_at "tr"
    cases heq : (a == b) with
    | true =>
      refine' ex_if_yes (tr_cast (tr_and (trAnd_cons (b := true) (tr_cast (tr_not (b := false) ?h1) rfl) (fun _ => trAnd_one (b := true) (tr_cast ?h2 heq)))) rfl) ?h3
      case h1 => walk_at "tr"
      case h2 => walk_at "tr"
      refine' ex_ret_cast ?h4 ?h5
      case h4 => walk_at "ev"
      case h5 => rw [← hr, heq]
    | false =>
      refine' ex_if_no0 (tr_cast (tr_and (trAnd_cons (b := true) (tr_cast (tr_not (b := false) ?i1) rfl) (fun _ => trAnd_one (b := false) (tr_cast ?i2 heq)))) rfl) ?i3
      case i1 => walk_at "tr"
      case i2 => walk_at "tr"
      refine' ex_ret_cast ?i4 ?i5
      case i4 => walk_at "ev"
      case i5 => rw [← hr, heq]
end
end
section

theorem split_first : ∀ {l : List Nat}, 46 ∈ l → ∃ a b, l = a ++ 46 :: b ∧ 46 ∉ a
  | [], h => by cases h
  | x :: l, h => by
    by_cases e : x = 46
    · subst e; exact ⟨[], l, rfl, by simp⟩
    · have h' : 46 ∈ l := by
        rcases List.mem_cons.mp h with q | q
        · exact absurd q.symm e
        · exact q
      obtain ⟨a, b, e1, e2⟩ := split_first h'
      exact ⟨x :: a, b, by rw [e1]; rfl, by simp; exact ⟨fun q => e q.symm, e2⟩⟩

section
variable {prog : Program} {w : World} {h₀ : Heap} {n : Nat}
theorem reach_no (C : Cx (hd.heap_39 w.params) h₀) {l : List Nat} (h : 46 ∉ l) : Fn prog w h₀ 2 (.ref 64) [.str (S l)] (.str (S l)) := by
  refine fn_def C (params := [Str.ofString "h"]) ⟨⟨_, _, rfl, rfl, rfl, rfl, rfl, rfl, rfl, ⟨_, _, _, _, rfl, rfl, rfl, rfl⟩, bind1 fun a => rfl⟩⟩ (by decide +kernel) rfl
    (σ := [(Str.ofString "h", .str (S l))]) rfl ?_
  dsimp only
  refine' ex_assign (d := .int (-1)) (Ev.cast (ev_find ?a1 ?a2 rfl (by intro _; rfl) (by intro _; rfl)) ?ae) ?a3 ?a4 ?a5
  case a1 => walk_at "ev"
  case a2 => walk_at "ev"
  case ae => rw [dot_S, find_none h]
  case a3 => decide +kernel
  case a4 => walk_at "sw"
  refine' ex_if_no0 (tr_cast (b := decide ((0 : Int) ≤ -1)) ?b1 (by decide)) ?b2
  case b1 => walk_at "tr"
  walk_at "ex"
theorem reach_dot (C : Cx (hd.heap_39 w.params) h₀) {c c' : Nat} {p r pre b : List Nat} (hp : pre = c :: p) (hb : b = r ++ [c']) (h : 46 ∉ pre) (hc : c ≠ 46) (hc' : c' ≠ 46) (hnd : ND (S (pre ++ 46 :: b))) (hlen : (pre ++ 46 :: b).length ≤ 900) {q : Bool}
    (hq : (decide (46 ∈ b) || b == [108, 111, 99, 97, 108]) = q) : Fn prog w h₀ 2 (.ref 64) [.str (S (pre ++ 46 :: b))] (.str (if q = true then S (46 :: b) else S (pre ++ 46 :: b))) := by
  have one : ∀ k, k ≠ 46 → ((⟨#[k]⟩ : Str) == Str.ofString ".") = false := fun k hk => by
    rw [dot_S]
    have : ((S [k]) == S [46]) = ([k] == [46]) := S_beq _ _
    refine this.trans ?_
    rw [beq_eq_false_iff_ne]; simpa using hk
  have G := hdn_fn (prog := prog) C (x := S (pre ++ 46 :: b)) (c := c) (c' := c') hnd (by rw [S_len]; omega) (by rw [empty_S, S_beq, beq_eq_false_iff_ne]; simp) (by rw [hp]; exact S_first _ _) (by
    have : pre ++ 46 :: b = (pre ++ 46 :: r) ++ [c'] := by rw [hb]; simp
    rw [this]; exact S_last _ _) (one c hc) (one c' hc')
  refine fn_def C (params := [Str.ofString "h"]) ⟨⟨_, _, rfl, rfl, rfl, rfl, rfl, rfl, rfl, ⟨_, _, _, _, rfl, rfl, rfl, rfl⟩, bind1 fun a => rfl⟩⟩ (by decide +kernel) rfl
    (σ := [(Str.ofString "h", .str (S (pre ++ 46 :: b)))]) rfl ?_
  dsimp only
  refine' ex_assign (d := .int pre.length) (Ev.cast (ev_find ?a1 ?a2 rfl (by intro _; rfl) (by intro _; rfl)) ?ae) ?a3 ?a4 ?a5
  case a1 => walk_at "ev"
  case a2 => walk_at "ev"
  case ae => rw [dot_S, find_at h]
  case a3 => decide +kernel
  case a4 => walk_at "sw"
  refine' ex_if_yes (tr_cast (b := decide ((0 : Int) ≤ pre.length)) ?b1 (by simp)) ?b2
  case b1 => walk_at "tr"
  refine' ex_assign (d := .str (S b)) (Ev.cast (ev_strSlice ?c1 (.some ?c2) .none ?c3) ?ce) ?c4 ?c5 ?c6
  case c1 => walk_at "ev"
  case c2 => walk_at "ev"
  case c3 => rw [S_len]; omega
  case ce =>
    rw [slice_from (k := pre.length + 1) (by omega) (by simp)]
    congr 1
    have : (pre ++ 46 :: b) = (pre ++ [46]) ++ b := by simp
    rw [this, List.drop_left' (by simp)]
  case c4 => decide +kernel
  case c5 => walk_at "sw"
  cases hm : decide (46 ∈ b) with
  | true =>
    rw [hm, Bool.true_or] at hq
    subst hq
    obtain ⟨b1, b2, hb1, hb2⟩ : ∃ b1 b2, b = b1 ++ 46 :: b2 ∧ 46 ∉ b1 := split_first (of_decide_eq_true hm)
    refine' ex_assign (d := .int b1.length) (Ev.cast (ev_find ?d1 ?d2 rfl (by intro _; rfl) (by intro _; rfl)) ?de) ?d3 ?d4 ?d5
    case d1 => walk_at "ev"
    case d2 => walk_at "ev"
    case de => rw [dot_S, hb1, find_at hb2]
    case d3 => decide +kernel
    case d4 => walk_at "sw"
    refine' ex_if_yes (tr_cast (tr_and (trAnd_cons (b := true) ?e1 (fun _ => trAnd_one (b := true) (tr_cast (tr_or (trOr_cons (b := true) (c := true) (tr_cast (b := decide ((0 : Int) ≤ b1.length)) ?e2 (by simp)) (fun e => nomatch e))) rfl)))) rfl) ?e4
    case e1 => walk_at "tr"
    case e2 => walk_at "tr"
    refine' ex_ret_cast (ev_bin ?e5 ?e6 (bi_str ?e7)) ?e8
    case e5 => walk_at "ev"
    case e6 => walk_at "ev"
    case e7 => rw [S_len, dot_S, S_len]; simp at hlen ⊢; omega
    case e8 => rw [dot_S, S_app, if_pos rfl]; rfl
  | false =>
    rw [hm, Bool.false_or] at hq
    have hn : 46 ∉ b := of_decide_eq_false hm
    refine' ex_assign (d := .int (-1)) (Ev.cast (ev_find ?f1 ?f2 rfl (by intro _; rfl) (by intro _; rfl)) ?fe) ?f3 ?f4 ?f5
    case f1 => walk_at "ev"
    case f2 => walk_at "ev"
    case fe => rw [dot_S, find_none hn]
    case f3 => decide +kernel
    case f4 => walk_at "sw"
    cases q with
    | true =>
      refine' ex_if_yes (tr_cast (tr_and (trAnd_cons (b := true) ?g1 (fun _ => trAnd_one (b := true) (tr_cast (tr_or (trOr_cons (b := false) (c := true) (tr_cast (b := decide ((0 : Int) ≤ -1)) ?g2 (by decide)) (fun _ => trOr_one (tr_cast ?g3 ?g3e)))) rfl)))) rfl) ?g4
      case g1 => walk_at "tr"
      case g2 => walk_at "tr"
      case g3 => walk_at "tr"
      case g3e => rw [local_S, S_beq]; exact hq
      refine' ex_ret_cast (ev_bin ?g5 ?g6 (bi_str ?g7)) ?g8
      case g5 => walk_at "ev"
      case g6 => walk_at "ev"
      case g7 => rw [S_len, dot_S, S_len]; simp at hlen ⊢; omega
      case g8 => rw [dot_S, S_app, if_pos rfl]; rfl
    | false =>
      refine' ex_if_no0 (tr_cast (tr_and (trAnd_cons (b := true) ?k1 (fun _ => trAnd_one (b := false) (tr_cast (tr_or (trOr_cons (b := false) (c := false) (tr_cast (b := decide ((0 : Int) ≤ -1)) ?k2 (by decide)) (fun _ => trOr_one (tr_cast ?k3 ?k3e)))) rfl)))) rfl) ?k4
      case k1 => walk_at "tr"
      case k2 => walk_at "tr"
      case k3 => walk_at "tr"
      case k3e => rw [local_S, S_beq]; exact hq
      refine' ex_ret_cast ?k5 ?k6
      case k5 => walk_at "ev"
      case k6 => rw [if_neg Bool.false_ne_true]
end
end
section

def Lab (x : List Nat) : Prop := x ≠ [] ∧ ∀ c ∈ x, Sre.isDigit c = false ∧ c ≠ 46 ∧ c < 128
abbrev loc : List Nat := [108, 111, 99, 97, 108]
def rungs : List (List Nat) → List (List Nat)
  | [] => []
  | [x] => if x == loc then [dotted [x]] else []
  | x :: y :: L => dotted (x :: y :: L) :: rungs (y :: L)
def reachV (pre : List Nat) : List (List Nat) → List Nat
  | [] => pre
  | [x] => if x == loc then dotted [x] else pre ++ dotted [x]
  | x :: y :: L => dotted (x :: y :: L)
theorem Lab.dotfree {x : List Nat} (h : Lab x) : 46 ∉ x := fun q => (h.2 46 q).2.1 rfl
theorem dotted_nd : ∀ {L : List (List Nat)}, (∀ x ∈ L, Lab x) → ∀ c ∈ dotted L, Sre.isDigit c = false ∧ c < 128
  | [], _, c, hc => by cases hc
  | x :: L, h, c, hc => by
    unfold dotted at hc
    rcases List.mem_cons.mp hc with rfl | hc
    · exact ⟨rfl, by decide⟩
    · rcases List.mem_append.mp hc with q | q
      · have := (h x List.mem_cons_self).2 c q; exact ⟨this.1, this.2.2⟩
      · exact dotted_nd (fun y hy => h y (List.mem_cons_of_mem _ hy)) c q
theorem dotted_last : ∀ {L : List (List Nat)} (x : List Nat), Lab x → (∀ y ∈ L, Lab y) → ∃ r c, x ++ dotted L = r ++ [c] ∧ c ≠ 46
  | [], x, hx, _ => by
    refine ⟨x.dropLast, x.getLast hx.1, by simp [dotted, List.dropLast_concat_getLast], (hx.2 _ (List.getLast_mem hx.1)).2.1⟩
  | y :: L, x, hx, h => by
    obtain ⟨r, c, e, hc⟩ := dotted_last (L := L) y (h y List.mem_cons_self) fun z hz => h z (List.mem_cons_of_mem _ hz)
    exact ⟨x ++ 46 :: r, c, by unfold dotted; rw [e]; simp, hc⟩

section
variable {prog : Program} {w : World} {h₀ : Heap} {n : Nat}
theorem reach_lab (C : Cx (hd.heap_39 w.params) h₀) {pre : List Nat} {L : List (List Nat)} (hp : Lab pre) (hL : ∀ x ∈ L, Lab x) (hlen : (pre ++ dotted L).length ≤ 900) : Fn prog w h₀ 2 (.ref 64) [.str (S (pre ++ dotted L))] (.str (S (reachV pre L))) := by
  cases L with
  | nil =>
    have e : pre ++ dotted [] = pre := by simp [dotted]
    rw [e]
    exact reach_no C hp.dotfree
  | cons x L =>
    obtain ⟨c, p, rfl⟩ : ∃ c p, pre = c :: p := by
      cases pre with
      | nil => exact absurd rfl hp.1
      | cons c p => exact ⟨c, p, rfl⟩
    have hx := hL x List.mem_cons_self
    have hL' : ∀ y ∈ L, Lab y := fun y hy => hL y (List.mem_cons_of_mem _ hy)
    obtain ⟨r, c', e, hc'⟩ := dotted_last x hx hL'
    have hnd : ND (S ((c :: p) ++ 46 :: (x ++ dotted L))) := fun q hq => by
      have hq' : q ∈ (c :: p) ++ dotted (x :: L) := by simpa [S, dotted] using hq
      rcases List.mem_append.mp hq' with h | h
      · exact (hp.2 q h).1
      · exact (dotted_nd hL q h).1
    have key := fun q hq => reach_dot (prog := prog) C (p := p) (q := q) rfl e hp.dotfree (hp.2 c List.mem_cons_self).2.1 hc' hnd hlen hq
    cases L with
    | nil =>
      have e2 : x ++ dotted [] = x := by simp [dotted]
      have e3 : (decide (46 ∈ x ++ dotted []) || (x ++ dotted [] == loc)) = (x == loc) := by
        rw [e2, decide_eq_false hx.dotfree, Bool.false_or]
      have := key _ e3
      show Fn _ _ _ _ _ [.str (S ((c :: p) ++ 46 :: (x ++ dotted [])))] (.str (S (if x == loc then dotted [x] else (c :: p) ++ dotted [x])))
      cases hq : x == loc with
      | true => rw [hq] at this; exact this
      | false => rw [hq] at this; exact this
    | cons y L =>
      have e3 : (decide (46 ∈ x ++ dotted (y :: L)) || (x ++ dotted (y :: L) == loc)) = true := by
        rw [decide_eq_true (by simp [dotted]), Bool.true_or]
      exact key _ e3

theorem ladder_while {sc : Scope} {test : Expr} {body : List Stmt} (C : Cx (hd.heap_39 w.params) h₀)
    (htest : ∀ (σ : Sto) (a b : Str), σ.lookup (Str.ofString "up") = some (.str a) → σ.lookup (Str.ofString "name") = some (.str b) → Tr prog w h₀ n sc σ test (a != b))
    (hbody : ∀ (σ : Sto) (acc : List D) (l : List Nat) (v : Str), l.length ≤ 901 → σ.lookup (Str.ofString "up") = some (.str (S (46 :: l))) → acc.length ≤ 900 → Fn prog w h₀ n (.ref 64) [.str (S l)] (.str v) →
      ∃ σ₁, XA prog w h₀ n sc (Str.ofString "ladder") σ acc body σ₁ (acc ++ [.str (S (46 :: l))]) ∧ σ₁.lookup (Str.ofString "name") = some (.str (S l)) ∧ σ₁.lookup (Str.ofString "up") = some (.str v)) (hn : 2 ≤ n) :
    ∀ (L : List (List Nat)) (pre : List Nat) (acc : List D) (σ : Sto), Lab pre → (∀ x ∈ L, Lab x) → (pre ++ dotted L).length ≤ 900 → acc.length + L.length ≤ 900 → σ.lookup (Str.ofString "name") = some (.str (S (pre ++ dotted L))) → σ.lookup (Str.ofString "up") = some (.str (S (reachV pre L))) →
      ∃ σ', WhL prog w h₀ n sc (Str.ofString "ladder") test body L.length σ acc σ' (acc ++ (rungs L).map fun l => .str (S l))
  | [], pre, acc, σ, hp, hL, hlen, hacc, h1, h2 => by
    refine ⟨σ, ?_⟩
    have := htest σ _ _ h2 h1
    have e : (S (reachV pre []) != S (pre ++ dotted [])) = false := by simp [reachV, dotted]
    rw [e] at this
    have e2 : acc ++ (rungs []).map (fun l => D.str (S l)) = acc := by simp [rungs]
    rw [e2]
    exact .done this
  | x :: L, pre, acc, σ, hp, hL, hlen, hacc, h1, h2 => by
    have hx := hL x List.mem_cons_self
    have hL' : ∀ y ∈ L, Lab y := fun y hy => hL y (List.mem_cons_of_mem _ hy)
    have hl' : (x ++ dotted L).length ≤ 900 := by
      have : (pre ++ dotted (x :: L)).length = pre.length + ((x ++ dotted L).length + 1) := by
        show (pre ++ 46 :: (x ++ dotted L)).length = _
        simp
      omega
    have hpl : 0 < pre.length := List.length_pos_iff.mpr hp.1
    have ne : (S (dotted (x :: L)) != S (pre ++ dotted (x :: L))) = true := by
      rw [bne_iff_ne]
      intro e
      have := congrArg List.length (S_inj e)
      rw [List.length_append] at this
      omega
    have go : reachV pre (x :: L) = dotted (x :: L) → rungs (x :: L) = dotted (x :: L) :: rungs L →
        ∃ σ', WhL prog w h₀ n sc (Str.ofString "ladder") test body (x :: L).length σ acc σ' (acc ++ (rungs (x :: L)).map fun l => .str (S l)) := fun e1 e2 => by
      rw [e1] at h2
      have ht := htest σ _ _ h2 h1
      rw [ne] at ht
      obtain ⟨σ₁, hb, g1, g2⟩ := hbody σ acc (x ++ dotted L) _ (by omega) h2 (by omega) ((reach_lab (prog := prog) C hx hL' hl').mono hn)
      obtain ⟨σ', hw⟩ := ladder_while C htest hbody hn L x (acc ++ [.str (S (46 :: (x ++ dotted L)))]) σ₁ hx hL' hl' (by rw [List.length_append, List.length_singleton]; rw [List.length_cons] at hacc; omega) g1 g2
      refine ⟨σ', .turn ht hb ?_⟩
      rw [e2, List.map_cons]
      have : acc ++ (D.str (S (dotted (x :: L))) :: (rungs L).map fun l => .str (S l)) = acc ++ [D.str (S (46 :: (x ++ dotted L)))] ++ (rungs L).map fun l => .str (S l) := by simp [dotted]
      rw [this]
      exact hw
    cases L with
    | cons y L => exact go rfl rfl
    | nil =>
      cases hq : x == loc with
      | true =>
        refine go (by show (if (x == loc) = true then _ else _) = _; rw [hq, if_pos rfl]) (by show (if (x == loc) = true then _ else _) = _; rw [hq, if_pos rfl]; rfl)
      | false =>
        refine ⟨σ, ?_⟩
        have e1 : reachV pre [x] = pre ++ dotted [x] := by show (if (x == loc) = true then _ else _) = _; rw [hq, if_neg Bool.false_ne_true]
        have e2 : rungs [x] = [] := by show (if (x == loc) = true then _ else _) = _; rw [hq, if_neg Bool.false_ne_true]
        rw [e1] at h2
        have ht := htest σ _ _ h2 h1
        rw [e2]
        have e3 : (S (pre ++ dotted [x]) != S (pre ++ dotted [x])) = false := bne_self_eq_false _
        rw [e3] at ht
        rw [List.map_nil, List.append_nil]
        exact .done ht

theorem ex_grow3 {K : Frag} {sc : Scope} {σ : Sto} {x : Str} {p p2 p3 p4 pos : Pos} {es : List Expr} {ds acc : List D} {s1 s2 s3 : Stmt} {σ' : Sto} (h0 : EvL prog w h₀ n sc σ es ds) (hlen : ds.length ≤ 1000) (hx : sc.names.lookup x = some .local) (hnx : σ.lookup x = none)
    (hloc : ∀ y d, σ.lookup y = some d → sc.names.lookup y = some .local) (hs : ∀ env, EnvFor sc env → swapsWith (.List es p2) (some (.Name x p)) pos.line env = pure false)
    (h : XA prog w h₀ n sc x σ ds [s1, s2, s3] σ' acc) (hk : sc.kind = .function) (hd : (x == ("__debug__" : Str)) = false) :
    Ex prog w h₀ n sc σ [.Assign [.Name x p] (.List es p2) pos, s1, s2, s3, .Return (some (.Name x p3)) p4] (.ret (.lst acc)) := ex_grow h0 hlen hx hnx hloc hs h [] hk hd

theorem ladder_body {sc : Scope} {σ : Sto} {p p1 p2 p3 p4 p5 q1 q2 q3 q4 : Pos} {body : List Stmt} {es0 : List Expr} {e1 e2 test : Expr} (C : Cx (hd.heap_39 w.params) h₀) {pre : List Nat} {L : List (List Nat)} (hp : Lab pre) (hL : ∀ x ∈ L, Lab x) (hlen : (pre ++ dotted L).length ≤ 900) (hn : L.length ≤ 800)
    (hx : sc.names.lookup (Str.ofString "ladder") = some .local) (hy : sc.names.lookup (Str.ofString "name") = some .local) (hz : sc.names.lookup (Str.ofString "up") = some .local) (hnx : σ.lookup (Str.ofString "ladder") = none)
    (hloc : ∀ y d, σ.lookup y = some d → sc.names.lookup y = some .local) (hs : ∀ env, EnvFor sc env → swapsWith (.List es0 p2) (some (.Name (Str.ofString "ladder") p)) p1.line env = pure false)
    (s1 : ∀ env, EnvFor sc env → swapsWith e1 (some (.Name (Str.ofString "name") p3)) p4.line env = pure false) (s2 : ∀ env, EnvFor sc env → swapsWith e2 (some (.Name (Str.ofString "up") p5)) q1.line env = pure false)
    (hk : sc.kind = .function) (h0 : EvL prog w h₀ 2 sc σ es0 [.str (S (pre ++ dotted L))]) (h1 : Ev prog w h₀ 2 sc σ e1 (.str (S (pre ++ dotted L)))) (h2 : Ev prog w h₀ 2 sc ((Str.ofString "name", .str (S (pre ++ dotted L))) :: σ) e2 (.str (S (reachV pre L))))
    (htest : ∀ (σ : Sto) (a b : Str), σ.lookup (Str.ofString "up") = some (.str a) → σ.lookup (Str.ofString "name") = some (.str b) → Tr prog w h₀ 2 sc σ test (a != b))
    (hbody : ∀ (σ : Sto) (acc : List D) (l : List Nat) (v : Str), l.length ≤ 901 → σ.lookup (Str.ofString "up") = some (.str (S (46 :: l))) → acc.length ≤ 900 → Fn prog w h₀ 2 (.ref 64) [.str (S l)] (.str v) →
      ∃ σ₁, XA prog w h₀ 2 sc (Str.ofString "ladder") σ acc body σ₁ (acc ++ [.str (S (46 :: l))]) ∧ σ₁.lookup (Str.ofString "name") = some (.str (S l)) ∧ σ₁.lookup (Str.ofString "up") = some (.str v)) :
    Ex prog w h₀ 2 sc σ [.Assign [.Name (Str.ofString "ladder") p] (.List es0 p2) p1, .Assign [.Name (Str.ofString "name") p3] e1 p4, .Assign [.Name (Str.ofString "up") p5] e2 q1, .While test body [] q2, .Return (some (.Name (Str.ofString "ladder") q3)) q4]
      (.ret (.lst (.str (S (pre ++ dotted L)) :: (rungs L).map fun l => .str (S l)))) := by
  obtain ⟨σ', hw⟩ := ladder_while C htest hbody (Nat.le_refl 2) L pre [.str (S (pre ++ dotted L))] ((Str.ofString "up", .str (S (reachV pre L))) :: (Str.ofString "name", .str (S (pre ++ dotted L))) :: σ) hp hL hlen (by simp; omega) (by walk_at "lk") (by walk_at "lk")
  exact ex_grow3 (K := hd.heap_39 w.params) h0 (Nat.le_of_ble_eq_true rfl) hx hnx hloc hs (xa_assign h1 hy (by decide +kernel) s1 (xa_assign h2 hz (by decide +kernel) s2 (xa_while hw xa_nil) hk) hk) hk (by decide +kernel)

theorem ladder_fn (C : Cx (hd.heap_39 w.params) h₀) {pre : List Nat} {L : List (List Nat)} (hp : Lab pre) (hL : ∀ x ∈ L, Lab x) (hlen : (pre ++ dotted L).length ≤ 900) (hn : L.length ≤ 800) :
    Fn prog w h₀ 3 (.ref 121) [.str (S (pre ++ dotted L))] (.lst (.str (S (pre ++ dotted L)) :: (rungs L).map fun l => .str (S l))) := by
  have G := reach_lab (prog := prog) C hp hL hlen
  refine fn_def C (params := [Str.ofString "host"]) ⟨⟨_, _, rfl, rfl, rfl, rfl, rfl, rfl, rfl, ⟨_, _, _, _, rfl, rfl, rfl, rfl⟩, bind1 fun a => rfl⟩⟩ (by decide +kernel) rfl
    (σ := [(Str.ofString "host", .str (S (pre ++ dotted L)))]) rfl ?_
  dsimp only
  refine' ladder_body C hp hL hlen hn (by decide +kernel) (by decide +kernel) (by decide +kernel) rfl ?hloc ?hs ?s1 ?s2 rfl ?h0 ?h1 ?h2 ?htest ?hbody
  case h0 => walk_at "el"
  case h1 => walk_at "ev"
  case h2 => walk_at "ev"
  case hs => walk_at "sw"
  case s1 => walk_at "sw"
  case s2 => walk_at "sw"
  case hloc =>
    intro y d hy
    rw [List.lookup_cons] at hy
    cases hb : y == Str.ofString "host" with
    | true => rw [beq_iff_eq.mp hb]; decide +kernel
    | false => rw [hb] at hy; cases hy
  case htest =>
    intro σ a b h1 h2
    walk_at "tr"
  case hbody =>
    intro σ acc l v hl h1 hacc F
    refine ⟨(Str.ofString "up", .str v) :: (Str.ofString "name", .str (S l)) :: σ, ?_, by walk_at "lk", by walk_at "lk"⟩
    refine' xa_append (d := .str (S (46 :: l))) ?c1 (by decide +kernel) (xa_assign (d := .str (S l)) (Ev.cast (ev_strSlice ?c2 (.some ?c3) .none ?c4) ?c5) ?d2 ?d3 ?d4 (xa_assign (d := .str v) ?e1 ?e2 ?e3 ?e4 xa_nil)) (by omega) rfl (by decide +kernel) ?c6 ?c7 rfl (by intro _; rfl) (by intro _; rfl)
    case c1 => walk_at "ev"
    case c2 => walk_at "ev"
    case c3 => walk_at "ev"
    case c4 => rw [S_len, List.length_cons]; omega
    case c5 => rw [slice_from (l := 46 :: l) (i := 1) (k := 1) rfl (by simp)]; rfl
    case c6 => intro env he; unfold interactive; rw [he.scope]; rfl
    case c7 => walk_at "sw"
    case d2 => decide +kernel
    case d3 => decide +kernel
    case d4 => walk_at "sw"
    case e1 => walk_at "ev"
    case e2 => decide +kernel
    case e3 => decide +kernel
    case e4 => walk_at "sw"
end
end
section

def nm : Nat → List Nat
  | 0 => [108, 111, 99, 97, 108]
  | 1 => [82]
  | 2 => [103]
  | 3 => [82, 103]
  | 4 => [66]
  | 5 => [82, 66]
  | _ => [103, 66]
def ss (i : Nat) : List Nat := List.replicate (i + 1) 115
theorem at4 {f : Nat → D} : ∀ {i : Nat}, i < 4 → [f 0, f 1, f 2, f 3][i]? = some (f i)
  | 0, _ => rfl
  | 1, _ => rfl
  | 2, _ => rfl
  | 3, _ => rfl
theorem at7 {f : Nat → D} : ∀ {i : Nat}, i < 7 → [f 0, f 1, f 2, f 3, f 4, f 5, f 6][i]? = some (f i)
  | 0, _ => rfl
  | 1, _ => rfl
  | 2, _ => rfl
  | 3, _ => rfl
  | 4, _ => rfl
  | 5, _ => rfl
  | 6, _ => rfl
theorem mem4 {d : D} (h : d ∈ [D.int 0, D.int 1, D.int 2, D.int 3]) : ∃ i : Nat, i < 4 ∧ d = .int i := by
  simp only [List.mem_cons, List.not_mem_nil, or_false] at h
  rcases h with rfl | rfl | rfl | rfl
  · exact ⟨0, by decide, rfl⟩
  · exact ⟨1, by decide, rfl⟩
  · exact ⟨2, by decide, rfl⟩
  · exact ⟨3, by decide, rfl⟩
theorem mul_s : ∀ {i : Nat}, i < 4 → MulOk (Str.ofString "s") ((i : Int) + 1) ∧ Txt.mul (Str.ofString "s") ((i : Int) + 1) = S (ss i)
  | 0, _ => ⟨⟨by decide, by intros; decide, by intros; decide⟩, by decide +kernel⟩
  | 1, _ => ⟨⟨by decide, by intros; decide, by intros; decide⟩, by decide +kernel⟩
  | 2, _ => ⟨⟨by decide, by intros; decide, by intros; decide⟩, by decide +kernel⟩
  | 3, _ => ⟨⟨by decide, by intros; decide, by intros; decide⟩, by decide +kernel⟩

theorem nm_len : ∀ k, (nm k).length ≤ 5
  | 0 => by decide
  | 1 => by decide
  | 2 => by decide
  | 3 => by decide
  | 4 => by decide
  | 5 => by decide
  | _ + 6 => by show 2 ≤ 5; decide
theorem joinOk {sep : Str} {xs : List Str} (h : xs.length ≤ 10) (hs : sep.length ≤ 10) (hx : ∀ x ∈ xs, x.length ≤ 10) : JoinOk sep xs = true := by
  unfold JoinOk PySem.Builtin.Str.tooLong
  rw [List.foldl_toArray]
  have go : ∀ (xs : List Str) (a : Nat), (∀ x ∈ xs, x.length ≤ 10) → xs.foldl (· + ·.length + sep.length) a ≤ a + 20 * xs.length := by
    intro xs
    induction xs with
    | nil => intro a _; simp
    | cons x r ih =>
      intro a h
      rw [List.foldl_cons, List.length_cons]
      have := ih (a + x.length + sep.length) fun y hy => h y (List.mem_cons_of_mem _ hy)
      have := h x List.mem_cons_self
      omega
  have := go xs 0 hx
  simp only [Bool.not_eq_true', decide_eq_false_iff_not, Nat.not_lt]
  unfold sizeLine
  omega

structure Host where
  c : Tri
  left : Tri
  e : Nat
  g : Nat
  f : Nat
abbrev Host.sp (h : Host) : D := .tup [.lst [.int h.e, .int h.g, .int h.f], h.left.d]
abbrev Host.tl (h : Host) : D := .lst [.str (S (nm h.e)), .str (S (nm h.g)), .str (S (nm h.f)), .str (S loc)]
abbrev Host.labs (h : Host) : List (List Nat) := [nm h.e, nm h.g, nm h.f, loc]
abbrev Host.wt (h : Host) : Int := h.c.a - 19 * h.c.b + 18 * h.c.c
abbrev hst (H : Nat → Host) (i : Nat) : List Nat := ss i ++ dotted (H i).labs
abbrev namesD : D := .lst [.str (S (nm 0)), .str (S (nm 1)), .str (S (nm 2)), .str (S (nm 3)), .str (S (nm 4)), .str (S (nm 5)), .str (S (nm 6))]
abbrev lawSt (H : Nat → Host) (v : Int) : Sto :=
  [(Str.ofString "hosts", .lst [.str (S (hst H 0)), .str (S (hst H 1)), .str (S (hst H 2)), .str (S (hst H 3))]), (Str.ofString "tails", .lst [(H 0).tl, (H 1).tl, (H 2).tl, (H 3).tl]), (Str.ofString "names", namesD),
   (Str.ofString "spelled", .lst [(H 0).sp, (H 1).sp, (H 2).sp, (H 3).sp]), (Str.ofString "weights", .lst [.int (H 0).wt, .int (H 1).wt, .int (H 2).wt, .int (H 3).wt]), (Str.ofString "colours", .lst [(H 0).c.d, (H 1).c.d, (H 2).c.d, (H 3).c.d]), (Str.ofString "white", .int v)]
def numsOf (ns : List Int) : List Int := (ns.take 4).map (·.fmod 4096)
/-- what must be known of the four numbers -/
structure LawIn (ns : List Int) (v : Int) (H : Nat → Host) (N : Nat → Int) : Prop where
  len : ns.length ≤ 900
  sum : PySem.SumFits (numsOf ns)
  white : (15 + (numsOf ns).sum).fmod 17 = v
  nums : numsOf ns ++ [621, 3848, 1666, 2058].drop (numsOf ns).length = [N 0, N 1, N 2, N 3]
  col : ∀ i, i < 4 → (H i).c = ⟨(N i).fmod 16, ((N i).fdiv 16).fmod 16, (N i).fdiv 256⟩
  fig : ∀ i, i < 4 → (H i).e < 7 ∧ (H i).g < 7 ∧ (H i).f < 7
  sp : ∀ i, i < 4 → ∃ q r, SpStep v (H i).c q (H i).f ∧ SpStep v q r (H i).g ∧ SpStep v r (H i).left (H i).e
  pt : ∀ i, i < 4 → ∃ q r s, PtStep v (H i).left q (H i).e ∧ PtStep v q r (H i).g ∧ PtStep v r s (H i).f ∧ s.a - s.least = (H i).c.a - (H i).c.least ∧ s.b - s.least = (H i).c.b - (H i).c.least ∧ s.c - s.least = (H i).c.c - (H i).c.least
  wts : ∀ i j, i < 4 → j < 4 → (((H j).wt - (H i).wt).fmod 343 = 0 ↔ (H i).f = (H j).f ∧ (H i).g = (H j).g ∧ (H i).e = (H j).e) ∧ (((H j).wt - (H i).wt).fmod 49 = 0 ↔ (H i).f = (H j).f ∧ (H i).g = (H j).g) ∧ (((H j).wt - (H i).wt).fmod 7 = 0 ↔ (H i).f = (H j).f)

theorem cut_to {ds : List D} : cut ds none (some 4) = ds.take 4 := by
  unfold cut clipAt
  simp only [Option.elim_none, Option.elim_some, List.drop_zero, Nat.sub_zero]
  rcases Nat.le_total ds.length 4 with h | h
  · rw [List.take_of_length_le h, List.take_of_length_le]
    omega
  · congr 1
    omega
theorem cut_from {ds : List D} {k : Nat} : cut ds (some (k : Int)) none = ds.drop k := by
  unfold cut clipAt
  simp only [Option.elim_none, Option.elim_some]
  rcases Nat.le_total k ds.length with h | h
  · have : (max 0 (min (if (k : Int) < 0 then (k : Int) + (ds.length : Int) else (k : Int)) (ds.length : Int))).toNat = k := by omega
    rw [this, List.take_of_length_le]
    rw [List.length_drop]; omega
  · rw [List.drop_eq_nil_of_le (as := ds) h, List.drop_eq_nil_of_le, List.take_nil]
    omega

/-! labels -/
theorem nm_lab : ∀ {k : Nat}, k < 7 → Lab (nm k)
  | 0, _ => ⟨by decide, by decide⟩
  | 1, _ => ⟨by decide, by decide⟩
  | 2, _ => ⟨by decide, by decide⟩
  | 3, _ => ⟨by decide, by decide⟩
  | 4, _ => ⟨by decide, by decide⟩
  | 5, _ => ⟨by decide, by decide⟩
  | 6, _ => ⟨by decide, by decide⟩
theorem loc_lab : Lab loc := ⟨by decide, by decide⟩
theorem ss_lab (i : Nat) : Lab (ss i) := by
  refine ⟨by unfold ss; simp, fun c hc => ?_⟩
  have := List.eq_of_mem_replicate hc
  subst this; decide
abbrev low (x : List Nat) : List Nat := x.map lo1
theorem low_dotted : ∀ L : List (List Nat), low (dotted L) = dotted (L.map low)
  | [] => rfl
  | x :: L => by
    show lo1 46 :: low (x ++ dotted L) = 46 :: (low x ++ dotted (L.map low))
    rw [show lo1 46 = 46 by decide]
    unfold low
    rw [List.map_append, ← low_dotted L]
theorem lo1_dot : ∀ {c : Nat}, c ≠ 46 → lo1 c ≠ 46 := fun {c} h => by unfold lo1; split <;> omega
theorem low_dotfree {x : List Nat} (h : 46 ∉ x) : 46 ∉ low x := fun q => by
  obtain ⟨c, hc, e⟩ := List.mem_map.mp q
  by_cases hq : c = 46
  · exact h (hq ▸ hc)
  · exact lo1_dot hq e
theorem pre_cancel {u v : List Nat} : ∀ {xs ys : List Nat}, 46 ∉ xs → 46 ∉ ys → ((xs ++ 46 :: u) <+: (ys ++ 46 :: v) ↔ xs = ys ∧ u <+: v)
  | [], [], _, _ => by simp
  | [], c :: ys, _, h => by
    simp only [List.nil_append, List.cons_append, List.cons_prefix_cons]
    constructor
    · rintro ⟨e, _⟩; exact absurd (by rw [e]; simp) h
    · rintro ⟨e, _⟩; cases e
  | c :: xs, [], h, _ => by
    simp only [List.nil_append, List.cons_append, List.cons_prefix_cons]
    constructor
    · rintro ⟨e, _⟩; exact absurd (by rw [e]; simp) h
    · rintro ⟨e, _⟩; cases e
  | c :: xs, d :: ys, h, k => by
    simp only [List.cons_append, List.cons_prefix_cons]
    rw [pre_cancel (fun q => h (List.mem_cons_of_mem _ q)) (fun q => k (List.mem_cons_of_mem _ q))]
    constructor
    · rintro ⟨rfl, rfl, h⟩; exact ⟨rfl, h⟩
    · rintro ⟨e, h⟩; cases e; exact ⟨rfl, rfl, h⟩
theorem suf_cancel {u v x y : List Nat} (hx : 46 ∉ x) (hy : 46 ∉ y) : (u ++ 46 :: x) <:+ (v ++ 46 :: y) ↔ x = y ∧ u <:+ v := by
  rw [← List.reverse_prefix]
  simp only [List.reverse_append, List.reverse_cons, List.append_assoc, List.singleton_append]
  rw [pre_cancel (by simpa using hx) (by simpa using hy), List.reverse_prefix]
  constructor
  · rintro ⟨h, k⟩; exact ⟨List.reverse_inj.mp h, k⟩
  · rintro ⟨h, k⟩; exact ⟨List.reverse_inj.mpr h, k⟩
theorem low_nm_inj : ∀ {a b : Nat}, a < 7 → b < 7 → (low (nm a) = low (nm b) ↔ a = b) := by
  have : ∀ a : Fin 7, ∀ b : Fin 7, (low (nm a.1) = low (nm b.1) ↔ a.1 = b.1) := by decide +kernel
  exact fun {a b} ha hb => this ⟨a, ha⟩ ⟨b, hb⟩
/-- the rungs against another host -/
theorem suf4 {p : List Nat} {e g f e' g' f' : Nat} (he : e < 7) (hg : g < 7) (hf : f < 7) (he' : e' < 7) (hg' : g' < 7) (hf' : f' < 7) :
    (low (dotted [nm e, nm g, nm f, loc]) <:+ low (p ++ dotted [nm e', nm g', nm f', loc]) ↔ f = f' ∧ g = g' ∧ e = e') ∧
    (low (dotted [nm g, nm f, loc]) <:+ low (p ++ dotted [nm e', nm g', nm f', loc]) ↔ f = f' ∧ g = g') ∧
    (low (dotted [nm f, loc]) <:+ low (p ++ dotted [nm e', nm g', nm f', loc]) ↔ f = f') ∧
    (low (dotted [loc]) <:+ low (p ++ dotted [nm e', nm g', nm f', loc])) := by
  have L := fun {k : Nat} (hk : k < 7) => low_dotfree (nm_lab hk).dotfree
  have LL := low_dotfree loc_lab.dotfree
  have big : low (p ++ dotted [nm e', nm g', nm f', loc]) = (((low p ++ 46 :: low (nm e')) ++ 46 :: low (nm g')) ++ 46 :: low (nm f')) ++ 46 :: low loc := by
    unfold low at *
    rw [List.map_append]
    have := low_dotted [nm e', nm g', nm f', loc]
    unfold low at this
    rw [this]; simp [dotted]
  rw [big, low_dotted, low_dotted, low_dotted, low_dotted]
  have s4 : dotted ([nm e, nm g, nm f, loc].map low) = ((([] ++ 46 :: low (nm e)) ++ 46 :: low (nm g)) ++ 46 :: low (nm f)) ++ 46 :: low loc := by simp [dotted]
  have s3 : dotted ([nm g, nm f, loc].map low) = (([] ++ 46 :: low (nm g)) ++ 46 :: low (nm f)) ++ 46 :: low loc := by simp [dotted]
  have s2 : dotted ([nm f, loc].map low) = ([] ++ 46 :: low (nm f)) ++ 46 :: low loc := by simp [dotted]
  have s1 : dotted ([loc].map low) = [] ++ 46 :: low loc := by simp [dotted]
  rw [s4, s3, s2, s1]
  rw [suf_cancel LL LL, suf_cancel LL LL, suf_cancel LL LL, suf_cancel LL LL, suf_cancel (L hf) (L hf'), suf_cancel (L hf) (L hf'), suf_cancel (L hf) (L hf'), suf_cancel (L hg) (L hg'), suf_cancel (L hg) (L hg'), suf_cancel (L he) (L he')]
  rw [low_nm_inj hf hf', low_nm_inj hg hg', low_nm_inj he he']
  simp
/-- where the dots stand -/
def dotsFrom : List Nat → Nat → List Nat
  | [], _ => []
  | c :: r, k => if c == 46 then k :: dotsFrom r (k + 1) else dotsFrom r (k + 1)
theorem occ_from (full : List Nat) : ∀ (r : List Nat) (k : Nat) (st : Array Nat × Nat), full.drop k = r → st.1.size ≤ k → st.2 ≤ k →
    (forIn (List.range' k (r.length + 1)) st (StrLaws.occBody (S full) (S [46]) (S full).length ((S full).length + 1))).run.fst.toList = st.1.toList ++ dotsFrom r k
  | [], k, st, h, h1, h2 => by
    have hl : full.length ≤ k := List.drop_eq_nil_iff.mp h
    rw [List.length_nil, Nat.zero_add, show List.range' k 1 = [k] from rfl, List.forIn_cons]
    unfold StrLaws.occBody
    rw [S_len, S_len, if_neg (by rw [List.length_singleton]; omega)]
    simp [dotsFrom]
  | c :: r, k, st, h, h1, h2 => by
    have hl : k < full.length := by
      rcases Nat.lt_or_ge k full.length with q | q
      · exact q
      · rw [List.drop_eq_nil_iff.mpr q] at h; cases h
    have hk : full[k]? = some c := by
      have : (full.drop k)[0]? = some c := by rw [h]; rfl
      rw [List.getElem?_drop] at this
      exact this
    have hr : full.drop (k + 1) = r := by
      have : (full.drop k).drop 1 = r := by rw [h]; rfl
      rwa [List.drop_drop] at this
    rw [List.length_cons, List.range'_succ, List.forIn_cons]
    by_cases hc : c = 46
    · have e : StrLaws.occBody (S full) (S [46]) (S full).length ((S full).length + 1) k st = pure (ForInStep.yield (st.1.push k, k + 1)) := by
        unfold StrLaws.occBody
        rw [if_pos]
        · rfl
        · rw [sub_dot, hk, S_len, S_len, hc]
          refine ⟨⟨⟨by omega, h2⟩, by rw [List.length_singleton]; omega⟩, beq_self_eq_true _⟩
      rw [e]
      have ih := occ_from full r (k + 1) (st.1.push k, k + 1) hr (by rw [Array.size_push]; omega) (Nat.le_refl _)
      refine Eq.trans ih ?_
      rw [dotsFrom, if_pos (beq_iff_eq.mpr hc), Array.toList_push]
      simp
    · have e : StrLaws.occBody (S full) (S [46]) (S full).length ((S full).length + 1) k st = pure (ForInStep.yield st) := by
        unfold StrLaws.occBody
        rw [if_neg]
        rw [sub_dot, hk]
        intro q
        exact hc (Option.some.inj (beq_iff_eq.mp q.2))
      rw [e]
      have ih := occ_from full r (k + 1) st hr (by omega) (by omega)
      refine Eq.trans ih ?_
      rw [dotsFrom, if_neg (by simpa using hc)]
theorem occ_dots (l : List Nat) : PySem.Builtin.Str.occurrences (S l) (S [46]) 0 (S l).length ((S l).length + 1) = dotsFrom l 0 := by
  rw [StrLaws.occ_eq, Nat.sub_zero]
  have := occ_from l l 0 (#[], 0) rfl (Nat.le_refl _) (Nat.le_refl _)
  rw [S_len] at this ⊢
  exact this
theorem ss_cut (l : List Nat) (i j : Nat) : PySem.Builtin.Str.strSub (S l) i j = S ((l.take j).drop i) := by
  unfold PySem.Builtin.Str.strSub S
  congr 1
  simp [List.extract_eq_take_drop, List.drop_take]
/-- the parts between the dots -/
def partsAt (l : List Nat) : Nat → List Nat → List (List Nat)
  | a, [] => [(l.take l.length).drop a]
  | a, c :: cs => (l.take c).drop a :: partsAt l (c + 1) cs
theorem parts_at (l : List Nat) : ∀ (cs : List Nat) (a : Nat), StrLaws.partsFrom (S l) 1 a cs = (partsAt l a cs).map S
  | [], a => by
    show [PySem.Builtin.Str.strSub (S l) a (S l).length] = _
    rw [ss_cut, S_len]; rfl
  | c :: cs, a => by
    show PySem.Builtin.Str.strSub (S l) a c :: StrLaws.partsFrom (S l) 1 (c + 1) cs = _
    rw [ss_cut, parts_at l cs (c + 1)]; rfl
def cutOk (e g f : Nat) : Bool :=
  let l := dotted [nm e, nm g, nm f, loc]
  let oc := dotsFrom l 0
  decide (1 ≤ l.length) && l.all (· < 256) && !oc.isEmpty && decide (l.length ≤ 1000) && (partsAt l 0 oc == [[], nm e, nm g, nm f, loc])
theorem cuts : ∀ e : Fin 7, ∀ g : Fin 7, ∀ f : Fin 7, cutOk e.1 g.1 f.1 = true := by decide +kernel
theorem kind_one {l : List Nat} (h : l.all (· < 256) = true) : PySem.Builtin.Str.strKind (S l) = 1 := by
  unfold PySem.Builtin.Str.strKind
  rw [if_pos]
  rw [← Array.all_toList, S_list]; exact h
structure SplitOk (l : List Nat) (ps : List Str) : Prop where
  k1 : (decide ((S l).length < (S [46]).length) || decide (PySem.Builtin.Str.strKind (S l) < PySem.Builtin.Str.strKind (S [46]))) = false
  k2 : ((S [46]).length == 0) = false
  k3 : (PySem.Builtin.Str.occurrences (S l) (S [46]) 0 (S l).length ((S l).length + 1)).isEmpty = false
  k4 : (S l).length ≤ 1000
  k5 : (PySem.Builtin.Str.partsBetween (S l) (PySem.Builtin.Str.occurrences (S l) (S [46]) 0 (S l).length ((S l).length + 1)) (S [46]).length).length ≤ 1000
  k6 : Txt.split (S l) (S [46]) = ps
theorem splits {e g f : Nat} (he : e < 7) (hg : g < 7) (hf : f < 7) : SplitOk (dotted [nm e, nm g, nm f, loc]) [S [], S (nm e), S (nm g), S (nm f), S loc] := by
  have h := cuts ⟨e, he⟩ ⟨g, hg⟩ ⟨f, hf⟩
  unfold cutOk at h
  simp only [Bool.and_eq_true, Bool.not_eq_true', decide_eq_true_eq, beq_iff_eq] at h
  obtain ⟨⟨⟨⟨h1, h2⟩, h3⟩, h4⟩, h5⟩ := h
  generalize dotted [nm e, nm g, nm f, loc] = l at *
  have hp : PySem.Builtin.Str.partsBetween (S l) (dotsFrom l 0) (S [46]).length = [S [], S (nm e), S (nm g), S (nm f), S loc] := by
    rw [StrLaws.partsBetween_eq]
    refine (parts_at l _ 0).trans ?_
    rw [h5]; rfl
  have k1 : (decide ((S l).length < (S [46]).length) || decide (PySem.Builtin.Str.strKind (S l) < PySem.Builtin.Str.strKind (S [46]))) = false := by
    rw [kind_one h2, kind_one (l := [46]) (by decide), S_len, S_len, Bool.or_eq_false_iff]
    exact ⟨decide_eq_false (by rw [List.length_singleton]; omega), by decide⟩
  refine ⟨k1, by rw [S_len]; rfl, by rw [occ_dots]; exact h3, by rw [S_len]; exact h4, by rw [occ_dots, hp]; exact Nat.le_of_ble_eq_true rfl, ?_⟩
  unfold Txt.split
  rw [k1, occ_dots, h3, if_neg Bool.false_ne_true, if_neg Bool.false_ne_true]
  exact hp
theorem idx_nm : ∀ {k : Nat}, k < 7 → [S (nm 0), S (nm 1), S (nm 2), S (nm 3), S (nm 4), S (nm 5), S (nm 6)][k]? = some (S (nm k)) ∧ ∀ m, m < k → [S (nm 0), S (nm 1), S (nm 2), S (nm 3), S (nm 4), S (nm 5), S (nm 6)][m]? ≠ some (S (nm k)) := by
  have : ∀ k : Fin 7, [S (nm 0), S (nm 1), S (nm 2), S (nm 3), S (nm 4), S (nm 5), S (nm 6)][k.1]? = some (S (nm k.1)) ∧ ∀ m, m < k.1 → [S (nm 0), S (nm 1), S (nm 2), S (nm 3), S (nm 4), S (nm 5), S (nm 6)][m]? ≠ some (S (nm k.1)) := by decide +kernel
  exact fun {k} hk => this ⟨k, hk⟩
theorem nm_loc : ∀ {k : Nat}, k < 7 → (nm k == loc) = (k == 0) := by
  have : ∀ k : Fin 7, (nm k.1 == loc) = (k.1 == 0) := by decide +kernel
  exact fun {k} hk => this ⟨k, hk⟩
theorem low_up : ∀ {l : List Nat}, (∀ c ∈ l, c < 128) → low (l.map up1) = low l := fun {l} h => by
  unfold low
  rw [List.map_map]
  refine List.map_congr_left fun c hc => ?_
  have : ∀ c : Fin 128, lo1 (up1 c.1) = lo1 c.1 := by decide +kernel
  exact this ⟨c, h c hc⟩
theorem up1_lt : ∀ {c : Nat}, c < 128 → up1 c < 128 := fun {c} h => by unfold up1; split <;> omega
theorem lo1_nd : ∀ {c : Nat}, c < 128 → Sre.isDigit c = false → Sre.isDigit (lo1 c) = false := by
  have : ∀ c : Fin 128, Sre.isDigit c.1 = false → Sre.isDigit (lo1 c.1) = false := by decide +kernel
  exact fun {c} h => this ⟨c, h⟩
end
section
section
variable {prog : Program} {w : World} {h₀ : Heap} {n : Nat}
local macro_rules | `(tactic| walk_at "cl") => `(tactic| first
  | (with_reducible exact CompL.nil)
  | ((with_reducible refine' comp1 ?hx ?he ?hr ?hk); (case hx => decide +kernel); (case he => walk_at "ev"); (case hr => walk_at "cl"); (case hk => rfl))
  | ((with_reducible refine' comp3l ?hx ?he ?hr ?ha ?hk); (case hx => decide +kernel); (case he => walk_at "ev"); (case hr => walk_at "cl"); (case ha => (intro _; rfl)); (case hk => rfl))
  | ((with_reducible refine' comp2t ?hx ?he ?hr ?ha ?hk); (case hx => decide +kernel); (case he => walk_at "ev"); (case hr => walk_at "cl"); (case ha => (intro _; rfl)); (case hk => rfl)))

local macro_rules | `(tactic| walk_at "ev") => `(tactic| ((with_reducible refine' ev_upper ?ho ?hf ?hl ?hb); (case ho => walk_at "ev"); (case hf => with_reducible assumption); (case hl => rfl); (case hb => (intro _; rfl))))
local macro_rules | `(tactic| walk_at "dj") => `(tactic| first | decide +kernel | walk_at "ev" | exact Nat.le_of_ble_eq_true rfl | rfl | (intro _; rfl))
theorem ev_dotjoin {sc : Scope} {σ : Sto} {x : List Nat} {L : List (List Nat)} {e : Expr} {k1 k2 : Nat} {p1 p2 apos pos pos' : Pos} (he : Ev prog w h₀ n sc σ e (.lst (((x :: L).map S).map .str))) (hl : (x :: L).length ≤ 10) (hx : ∀ y ∈ x :: L, y.length ≤ 10) (hd : (dotted (x :: L)).length ≤ 900)
    (hline : (apos.endLine == pos.line) = true) (hs : ∀ env, starEach [e] env = [(false, eval e env)]) (hb : ∀ env, attributeBase (.Constant (.str (Str.ofString ".")) k2 p2) "join" env (eval (.Constant (.str (Str.ofString ".")) k2 p2) env) = eval (.Constant (.str (Str.ofString ".")) k2 p2) env) :
    Ev prog w h₀ n sc σ (.BinOp (.Constant (.str (Str.ofString ".")) k1 p1) .Add (.Call (.Attribute (.Constant (.str (Str.ofString ".")) k2 p2) "join" apos) [e] [] pos) pos') (.str (S (dotted (x :: L)))) := by
  refine' Ev.cast (ev_bin (Ev.cast ev_str ?a1) (Ev.cast (ev_join (x := S [46]) (Ev.cast ev_str ?a2) he ?a3 hline hs hb) ?a4) (bi_str ?a5)) ?a6
  case a1 => rw [dot_S]
  case a2 => rw [dot_S]
  case a3 =>
    refine joinOk (by rw [List.length_map]; exact hl) (by rw [S_len]; decide) fun y hy => ?_
    obtain ⟨z, hz, rfl⟩ := List.mem_map.mp hy
    rw [S_len]; exact hx z hz
  case a4 => rw [join_dot]
  case a5 =>
    rw [S_len, S_len]
    have : (dotted (x :: L)).length = (x ++ dotted L).length + 1 := by simp [dotted]
    simp only [List.length_singleton]; omega
  case a6 => rw [S_app]; rfl

theorem dotted_len {L : List (List Nat)} : (∀ y ∈ L, y.length ≤ 5) → (dotted L).length ≤ 6 * L.length := by
  induction L with
  | nil => intro _; simp [dotted]
  | cons x L ih =>
    intro h
    have := ih fun y hy => h y (List.mem_cons_of_mem _ hy)
    have := h x List.mem_cons_self
    simp [dotted]; omega
theorem strOk_S {x : List Nat} (h : ∀ c ∈ x, c < 128) (hl : x.length ≤ 1000) : PyData.strOk (S x) = true := by
  unfold PyData.strOk
  rw [Array.all_eq_true']
  intro c hc
  have : c ∈ x := by simpa [S] using hc
  have := h c this
  exact decide_eq_true (by omega)
/-- the same lists of flat data -/
theorem strs_flat : ∀ {l : List (List Nat)}, (∀ x ∈ l, (∀ c ∈ x, c < 128) ∧ x.length ≤ 1000) → flats (l.map fun x => D.str (S x)) = true
  | [], _ => rfl
  | x :: l, h => by
    show ((flatP (.str (S x))).isSome && flats (l.map fun x => D.str (S x))) = true
    have h1 := h x List.mem_cons_self
    have : flatP (.str (S x)) = some (.str (S x)) := by
      show (if PyData.strOk (S x) = true then _ else _) = _
      rw [if_pos (strOk_S h1.1 h1.2)]
    rw [this, strs_flat fun y hy => h y (List.mem_cons_of_mem _ hy)]; rfl
theorem cm_strs_ne {l : List (List Nat)} (h : ∀ x ∈ l, (∀ c ∈ x, c < 128) ∧ x.length ≤ 1000) : Cm prog w .NotEq (.lst (l.map fun x => D.str (S x))) (.lst (l.map fun x => D.str (S x))) false := cm_lst_ne (strs_flat h)

theorem udm_low (C : Cx (hd.heap_39 w.params) h₀) {l : List Nat} {c : Nat} {m : List Nat} {r : Bool} (hl : ∀ x ∈ l, Sre.isDigit x = false ∧ x < 128) (hm : ∀ x ∈ c :: m, Sre.isDigit x = false ∧ x < 128) (ll : l.length ≤ 900) (lm : (c :: m).length ≤ 900)
    (hr : (if (lo1 c == 46) = true then decide (low (c :: m) <:+ low l) else (low l == low (c :: m))) = r) : Fn prog w h₀ 3 (.ref 57) [.str (Txt.upper (S l)), .str (S (c :: m))] (.bool r) := by
  have e1 : Txt.upper (S l) = S (l.map up1) := upper_S fun x hx => (hl x hx).2
  have a1 : ∀ x ∈ l.map up1, x < 128 := fun x hx => by
    obtain ⟨y, hy, rfl⟩ := List.mem_map.mp hx
    exact up1_lt (hl y hy).2
  have e2 : Txt.lower (S (l.map up1)) = S (low l) := by
    rw [lower_S a1]
    exact congrArg S (low_up fun x hx => (hl x hx).2)
  have e3 : Txt.lower (S (c :: m)) = S (low (c :: m)) := lower_S fun x hx => (hm x hx).2
  have nd : ∀ {k : List Nat}, (∀ x ∈ k, Sre.isDigit x = false ∧ x < 128) → ND (S (low k)) := fun {k} h q hq => by
    have hq' : q ∈ low k := by simpa [S] using hq
    obtain ⟨y, hy, rfl⟩ := List.mem_map.mp hq'
    exact lo1_nd (h y hy).2 (h y hy).1
  have fit : ∀ {k : List Nat}, k.length ≤ 900 → PySem.Builtin.Str.tooLong (S (low k)).length = false := fun {k} h => by
    unfold PySem.Builtin.Str.tooLong
    rw [S_len, List.length_map]
    simp only [decide_eq_false_iff_not, Nat.not_lt]
    unfold sizeLine; omega
  rw [e1]
  refine (udm_fn (prog := prog) C e2 e3 (by rw [e2]; exact fit ll) (by rw [e3]; exact fit lm) (nd hl) (nd hm) (by rw [S_len, List.length_map]; omega) (by rw [S_len, List.length_map]; omega) ?_).mono (by decide)
  rw [← hr, dot_S, show low (c :: m) = lo1 c :: low m from rfl, starts_dot, S_beq]
  split
  · cases hq : decide (lo1 c :: low m <:+ low l) with
    | true => exact (ends_S _ _).mpr (of_decide_eq_true hq)
    | false =>
      cases h2 : Txt.endswith (S (low l)) (S (lo1 c :: low m)) with
      | false => rfl
      | true => exact absurd ((ends_S _ _).mp h2) (of_decide_eq_false hq)
  · rfl

set_option maxHeartbeats 4000000 in
theorem law_pre (C : Cx (hd.heap_39 w.params) h₀) {ns : List Int} {v : Int} {H : Nat → Host} {N : Nat → Int} (A : LawIn ns v H N) : Fn prog w h₀ 4 (.ref 126) [.lst (ns.map .int)] (.bool true) := by
  refine fn_def C (params := [Str.ofString "script"]) ⟨⟨_, _, rfl, rfl, rfl, rfl, rfl, rfl, rfl, ⟨_, _, _, _, rfl, rfl, rfl, rfl⟩, bind1 fun a => rfl⟩⟩ (by decide +kernel) rfl
    (σ := [(Str.ofString "script", .lst (ns.map .int))]) rfl ?_
  dsimp only
  have hlen := A.len
  have hml : (numsOf ns).length ≤ 4 := by unfold numsOf; simp; omega
  -- drawn
  refine' ex_assignC (ys := (numsOf ns).map .int) (src_cast (src_lst (ev_slice ?a1 .none (.some ?a2) ?a3)) (cut_to)) ?a4 (compL_cast (comp_map (fun d => match d with | .int x => .int (x.fmod 4096) | d => d) ?a5 rfl _ ?a6) ?a7) ?a8 (by decide +kernel) ?a9 (by decide +kernel) ?b1 (by intro _ _; rfl) ?b2 rfl
  case a1 => walk_at "ev"
  case a2 => walk_at "ev"
  case a3 => rw [List.length_map]; omega
  case a4 => walk_at "cp"
  case a5 => decide +kernel
  case a6 =>
    intro d hd
    rw [← List.map_take] at hd
    obtain ⟨x, _, rfl⟩ := List.mem_map.mp hd
    walk_at "ev"
  case a7 => unfold numsOf; rw [← List.map_take, List.map_map, List.map_map]; rfl
  case a8 => simp; omega
  case a9 => rfl
  case b1 => exact swap_local (by decide +kernel) rfl rfl (by decide +kernel)
  -- white
  have F1 := fn_sum (prog := prog) (w := w) (h₀ := h₀) (n := 3) A.sum
  refine' ex_assign (d := .int v) (Ev.cast ?c1 ?c2) ?c3 ?c4 ?c5
  case c1 => walk_at "ev"
  case c2 => rw [A.white]
  case c3 => decide +kernel
  case c4 => walk_at "sw"
  -- numbers
  have F2 := fn_len (prog := prog) (w := w) (h₀ := h₀) (n := 3) (ds := (numsOf ns).map D.int) (by rw [List.length_map]; omega)
  refine' ex_assign (d := .lst [.int (N 0), .int (N 1), .int (N 2), .int (N 3)]) (Ev.cast (ev_bin ?d1 (ev_slice ?d2 (.some ?d3) .none ?d4) (bi_lst ?d5)) ?d6) ?d7 ?d8 ?d9
  case d1 => walk_at "ev"
  case d2 => walk_at "ev"
  case d3 => walk_at "ev"
  case d4 => exact Nat.le_of_ble_eq_true rfl
  case d5 => rw [cut_from, List.length_drop, List.length_map]; simp only [List.length_cons, List.length_nil]; omega
  case d6 =>
    rw [cut_from, List.length_map]
    have e := congrArg (List.map D.int) A.nums
    rw [List.map_append, List.map_drop] at e
    exact congrArg D.lst e
  case d7 => decide +kernel
  case d8 => walk_at "sw"
  have hc0 := A.col 0 (by decide)
  have hc1 := A.col 1 (by decide)
  have hc2 := A.col 2 (by decide)
  have hc3 := A.col 3 (by decide)
  -- colours
  refine' ex_assign (d := .lst [(H 0).c.d, (H 1).c.d, (H 2).c.d, (H 3).c.d]) (Ev.cast ?e1 ?e2) ?e3 ?e4 ?e5
  case e1 => walk_at "ev"
  case e2 => rw [hc0, hc1, hc2, hc3]
  case e3 => decide +kernel
  case e4 => walk_at "sw"
  -- weights
  refine' ex_assign (d := .lst [.int (H 0).wt, .int (H 1).wt, .int (H 2).wt, .int (H 3).wt]) ?f1 ?f2 ?f3 ?f4
  case f1 => walk_at "ev"
  case f2 => decide +kernel
  case f3 => walk_at "sw"
  -- spelled
  have sp : ∀ i, i < 4 → Fn prog w h₀ 3 (.ref 109) [(H i).c.d, .int v] (H i).sp := fun i hi => by
    obtain ⟨q, r, h1, h2, h3⟩ := A.sp i hi
    exact (spelled_fn C h1 h2 h3).mono (by decide)
  have sp0 := sp 0 (by decide)
  have sp1 := sp 1 (by decide)
  have sp2 := sp 2 (by decide)
  have sp3 := sp 3 (by decide)
  refine' ex_assignC (ys := [(H 0).sp, (H 1).sp, (H 2).sp, (H 3).sp]) (src_lst ?g1) ?g2 ?g3 ?g6 (by decide +kernel) ?g7 (by decide +kernel) ?g4 (by intro _ _; rfl) ?g5 rfl
  case g1 => walk_at "ev"
  case g2 => walk_at "cp"
  case g3 => walk_at "cl"
  case g6 => exact Nat.le_of_ble_eq_true rfl
  case g7 => rfl
  case g4 => exact swap_local (by decide +kernel) rfl rfl (by decide +kernel)
  -- names
  refine' ex_assign (d := namesD) (Ev.cast ?k1 ?k2) ?k3 ?k4 ?k5
  case k1 => walk_at "ev"
  case k2 => rw [show Str.ofString "local" = S (nm 0) by decide +kernel, show Str.ofString "R" = S (nm 1) by decide +kernel, show Str.ofString "g" = S (nm 2) by decide +kernel, show Str.ofString "Rg" = S (nm 3) by decide +kernel, show Str.ofString "B" = S (nm 4) by decide +kernel, show Str.ofString "RB" = S (nm 5) by decide +kernel, show Str.ofString "gB" = S (nm 6) by decide +kernel]
  case k3 => decide +kernel
  case k4 => walk_at "sw"
  have f0 := A.fig 0 (by decide)
  have f1 := A.fig 1 (by decide)
  have f2 := A.fig 2 (by decide)
  have f3 := A.fig 3 (by decide)
  have a0 := at7 (f := fun k => .str (S (nm k))) f0.1
  have a1 := at7 (f := fun k => .str (S (nm k))) f0.2.1
  have a2 := at7 (f := fun k => .str (S (nm k))) f0.2.2
  have b0 := at7 (f := fun k => .str (S (nm k))) f1.1
  have b1 := at7 (f := fun k => .str (S (nm k))) f1.2.1
  have b2 := at7 (f := fun k => .str (S (nm k))) f1.2.2
  have c0 := at7 (f := fun k => .str (S (nm k))) f2.1
  have c1 := at7 (f := fun k => .str (S (nm k))) f2.2.1
  have c2 := at7 (f := fun k => .str (S (nm k))) f2.2.2
  have d0 := at7 (f := fun k => .str (S (nm k))) f3.1
  have d1 := at7 (f := fun k => .str (S (nm k))) f3.2.1
  have d2 := at7 (f := fun k => .str (S (nm k))) f3.2.2
  -- tails
  refine' ex_assign (d := .lst [(H 0).tl, (H 1).tl, (H 2).tl, (H 3).tl]) (Ev.cast ?l1 ?l2) ?l3 ?l4 ?l5
  case l1 => walk_at "ev"
  case l2 => rw [local_S]; rfl
  case l3 => decide +kernel
  case l4 => walk_at "sw"
  clear a0 a1 a2 b0 b1 b2 c0 c1 c2 d0 d1 d2
  -- hosts
  refine' ex_assign (d := .lst [.str (S (hst H 0)), .str (S (hst H 1)), .str (S (hst H 2)), .str (S (hst H 3))]) (ev_compC (src_range4 C ?m1 ?m2 ?m3 ?m4 ?m5) ?m6 (compL_cast (comp_map (fun d => match d with | .int x => .str (S (hst H x.toNat)) | d => d) ?m7 ?m8 _ ?m9) rfl) ?n1 ?n2 ?n3 ?n4) ?n5 ?n6 ?n7
  case m1 => decide +kernel
  case m2 => rfl
  case m3 => walk_at "ev"
  case m4 => rfl
  case m5 => intro _; rfl
  case m6 => walk_at "cp"
  case m7 => decide +kernel
  case m8 => rfl
  case m9 =>
    intro d hd
    obtain ⟨i, hi, rfl⟩ := mem4 hd
    have hT := at4 (f := fun i => (H i).tl) hi
    obtain ⟨hm1, hm2⟩ := mul_s hi
    refine' Ev.cast (ev_join (x := S [46]) (xs := (ss i :: (H i).labs).map S) (Ev.cast ?p1 ?p2) (Ev.cast (ev_bin (ev_list (evL_cons (ev_bin ?p3 ?p4 (bi_strMul hm1)) evL_nil ?p5) ?p6) ?p7 (bi_lst ?p8)) ?p9) ?q1 rfl ?q2 ?q3) ?q4
    case p1 => walk_at "ev"
    case p2 => rw [dot_S]
    case p3 => walk_at "ev"
    case p4 => walk_at "ev"
    case p5 => intro _; rfl
    case p6 => exact Nat.le_of_ble_eq_true rfl
    case p7 => walk_at "ev"
    case p8 => exact Nat.le_of_ble_eq_true rfl
    case p9 => rw [hm2]; rfl
    case q1 =>
      refine joinOk (by simp) (by rw [S_len]; decide) fun x hx => ?_
      simp only [List.map_cons, List.map_nil, List.mem_cons, List.not_mem_nil, or_false] at hx
      rcases hx with rfl | rfl | rfl | rfl | rfl <;> rw [S_len]
      · unfold ss; rw [List.length_replicate]; omega
      · exact Nat.le_trans (nm_len _) (by decide)
      · exact Nat.le_trans (nm_len _) (by decide)
      · exact Nat.le_trans (nm_len _) (by decide)
      · decide
    case q2 => intro _; rfl
    case q3 => intro _; rfl
    case q4 => rw [join_dot]; rfl
  case n1 => exact Nat.le_of_ble_eq_true rfl
  case n2 => decide +kernel
  case n3 => rfl
  case n4 => intro _ _; rfl
  case n5 => decide +kernel
  case n6 => walk_at "sw"
  refine ex_sub1 (τ := lawSt H v) ?_ (sub_cons rfl (sub_cons rfl (sub_cons rfl (sub_cons rfl (sub_cons rfl (sub_cons rfl (sub_cons rfl sub_nil)))))))
  refine' ex_for (ds := [.int 0, .int 1, .int 2, .int 3]) (σ' := lawSt H v) (src_range4 C ?r1 ?r2 ?r3 ?r4 ?r5) (forL_const ?turn) (by decide +kernel) ?rest (by intro _ _; rfl)
  case r1 => decide +kernel
  case r2 => rfl
  case r3 => walk_at "ev"
  case r4 => rfl
  case r5 => intro _; rfl
  case rest => walk_at "ex"
  case turn =>
    intro d hd
    obtain ⟨i, hi, rfl⟩ := mem4 hd
    obtain ⟨he, hg, hf⟩ := A.fig i hi
    have le := nm_len (H i).e
    have lg := nm_len (H i).g
    have lf := nm_len (H i).f
    have hss : (ss i).length ≤ 4 := by unfold ss; rw [List.length_replicate]; omega
    have tH := at4 (f := fun i => .str (S (hst H i))) hi
    have tT := at4 (f := fun i => (H i).tl) hi
    have tC := at4 (f := fun i => (H i).c.d) hi
    have tS := at4 (f := fun i => (H i).sp) hi
    have tW := at4 (f := fun i => .int (H i).wt) hi
    have labs : ∀ x ∈ (H i).labs, Lab x := fun x hx => by
      simp only [List.mem_cons, List.not_mem_nil, or_false] at hx
      rcases hx with rfl | rfl | rfl | rfl
      · exact nm_lab he
      · exact nm_lab hg
      · exact nm_lab hf
      · exact loc_lab
    have hloc : loc.length ≤ 5 := by decide
    have five : ∀ {L : List (List Nat)}, (∀ y ∈ L, y ∈ [nm (H i).e, nm (H i).g, nm (H i).f, loc]) → ∀ y ∈ L, y.length ≤ 5 := fun {L} h y hy => by
      have := h y hy
      simp only [List.mem_cons, List.not_mem_nil, or_false] at this
      rcases this with rfl | rfl | rfl | rfl
      · exact le
      · exact lg
      · exact lf
      · exact hloc
    have ten : ∀ {L : List (List Nat)}, (∀ y ∈ L, y ∈ [nm (H i).e, nm (H i).g, nm (H i).f, loc]) → ∀ y ∈ L, y.length ≤ 10 := fun {L} h y hy => Nat.le_trans (five h y hy) (by decide)
    have nine : ∀ {L : List (List Nat)}, (∀ y ∈ L, y ∈ [nm (H i).e, nm (H i).g, nm (H i).f, loc]) → L.length ≤ 4 → (dotted L).length ≤ 900 := fun {L} h hl => by have := dotted_len (five h); omega
    have w4 : ∀ y ∈ [nm (H i).e, nm (H i).g, nm (H i).f, loc], y ∈ [nm (H i).e, nm (H i).g, nm (H i).f, loc] := fun y hy => hy
    have w3 : ∀ y ∈ [nm (H i).g, nm (H i).f, loc], y ∈ [nm (H i).e, nm (H i).g, nm (H i).f, loc] := fun y hy => List.mem_cons_of_mem _ hy
    have w2 : ∀ y ∈ [nm (H i).f, loc], y ∈ [nm (H i).e, nm (H i).g, nm (H i).f, loc] := fun y hy => List.mem_cons_of_mem _ (List.mem_cons_of_mem _ hy)
    have w1 : ∀ y ∈ [loc], y ∈ [nm (H i).e, nm (H i).g, nm (H i).f, loc] := fun y hy => List.mem_cons_of_mem _ (List.mem_cons_of_mem _ (List.mem_cons_of_mem _ hy))
    have v3 : ∀ y ∈ [nm (H i).e, nm (H i).g, nm (H i).f], y ∈ [nm (H i).e, nm (H i).g, nm (H i).f, loc] := fun y hy => by
      simp only [List.mem_cons, List.not_mem_nil, or_false] at hy ⊢
      rcases hy with h | h | h <;> simp [h]
    have v2 : ∀ y ∈ [nm (H i).g, nm (H i).f], y ∈ [nm (H i).e, nm (H i).g, nm (H i).f, loc] := fun y hy => by
      simp only [List.mem_cons, List.not_mem_nil, or_false] at hy ⊢
      rcases hy with h | h <;> simp [h]
    have v1 : ∀ y ∈ [nm (H i).f], y ∈ [nm (H i).e, nm (H i).g, nm (H i).f, loc] := fun y hy => by
      simp only [List.mem_cons, List.not_mem_nil, or_false] at hy ⊢
      simp [hy]
    have t4 := ten w4
    have t3 := ten w3
    have t2 := ten w2
    have t1 := ten w1
    have u3 := ten v3
    have u2 := ten v2
    have u1 := ten v1
    have n4 := nine w4 (by show 4 ≤ 4; decide)
    have n3 := nine w3 (by show 3 ≤ 4; decide)
    have n2 := nine w2 (by show 2 ≤ 4; decide)
    have n1 := nine w1 (by show 1 ≤ 4; decide)
    have o3 := nine v3 (by show 3 ≤ 4; decide)
    have o2 := nine v2 (by show 2 ≤ 4; decide)
    have o1 := nine v1 (by show 1 ≤ 4; decide)
    have dl4 : (dotted (H i).labs).length ≤ 24 := dotted_len (L := (H i).labs) (five w4)
    have dl3 : (dotted [nm (H i).e, nm (H i).g, nm (H i).f]).length ≤ 18 := dotted_len (five v3)
    have asc : ∀ {L : List (List Nat)}, (∀ y ∈ L, y ∈ [nm (H i).e, nm (H i).g, nm (H i).f, loc]) → ∀ c ∈ dotted L, c < 128 := fun {L} h c hc => (dotted_nd (fun y hy => labs y (h y hy)) c hc).2
    have hasc : ∀ c ∈ hst H i, c < 128 := fun c hc => by
      rcases List.mem_append.mp hc with q | q
      · exact ((ss_lab i).2 c q).2.2
      · exact asc w4 c q
    have hlen' : (hst H i).length ≤ 900 := by show (ss i ++ dotted (H i).labs).length ≤ 900; rw [List.length_append]; omega
    have GL := ladder_fn (prog := prog) C (ss_lab i) labs hlen' (by show 4 ≤ 800; decide)
    -- ladder
    refine' ex_assign (d := .lst ([hst H i, dotted (H i).labs, dotted [nm (H i).g, nm (H i).f, loc], dotted [nm (H i).f, loc], dotted [loc]].map fun x => D.str (S x))) (Ev.cast ?s1 ?s2) ?s3 ?s4 ?s5
    case s1 => walk_at "ev"
    case s2 => rfl
    case s3 => decide +kernel
    case s4 => walk_at "sw"
    have chars : ∀ x ∈ [hst H i, dotted (H i).labs, dotted [nm (H i).g, nm (H i).f, loc], dotted [nm (H i).f, loc], dotted [loc]], (∀ c ∈ x, c < 128) ∧ x.length ≤ 1000 := fun x hx => by
      simp only [List.mem_cons, List.not_mem_nil, or_false] at hx
      rcases hx with rfl | rfl | rfl | rfl | rfl
      · exact ⟨hasc, by omega⟩
      · exact ⟨asc w4, Nat.le_trans n4 (by decide)⟩
      · exact ⟨asc w3, Nat.le_trans n3 (by decide)⟩
      · exact ⟨asc w2, Nat.le_trans n2 (by decide)⟩
      · exact ⟨asc w1, Nat.le_trans n1 (by decide)⟩
    -- first test
    refine' ex_if_no0 (tr_cmp ?t1 (Ev.cast (ev_bin ?t2 (ev_compC (src_range4 C ?t3 ?t4 ?t5 ?t6 ?t7) ?t8 ?t9 ?u1 ?u2 ?u3 ?u4) (bi_lst ?u5)) ?u6) (cm_strs_ne chars) ?u7) ?u8
    case t1 => walk_at "ev"
    case t2 => walk_at "ev"
    case t3 => decide +kernel
    case t4 => rfl
    case t5 => walk_at "ev"
    case t6 => rfl
    case t7 => intro _; rfl
    case t8 => walk_at "cp"
    case t9 =>
      refine' comp1 ?ba (ev_dotjoin (x := nm (H i).e) (L := [nm (H i).g, nm (H i).f, loc]) (Ev.cast (ev_slice ?bb (.some ?bc) .none ?bd) ?be) ?bf ?bg ?bh ?bi ?bj ?bk) (comp1 ?ca (ev_dotjoin (x := nm (H i).g) (L := [nm (H i).f, loc]) (Ev.cast (ev_slice ?cb (.some ?cc) .none ?cd) ?ce) ?cf ?cg ?ch ?ci ?cj ?ck)
        (comp1 ?da (ev_dotjoin (x := nm (H i).f) (L := [loc]) (Ev.cast (ev_slice ?db (.some ?dc) .none ?dd) ?de) ?df ?dg ?dh ?di ?dj ?dk) (comp1 ?ea (ev_dotjoin (x := loc) (L := []) (Ev.cast (ev_slice ?eb (.some ?ec) .none ?ed) ?ee) ?ef ?eg ?eh ?ei ?ej ?ek) .nil ?el) ?dl) ?cl) ?bl
      all_goals try walk_at "dj"
      all_goals assumption
    case u1 => exact Nat.le_of_ble_eq_true rfl
    case u2 => decide +kernel
    case u3 => rfl
    case u4 => intro _ _; rfl
    case u5 => exact Nat.le_of_ble_eq_true rfl
    case u6 => rfl
    case u7 => with_unfolding_all rfl
    -- bare
    have hcut : hst H i = (ss i ++ dotted [nm (H i).e, nm (H i).g, nm (H i).f]) ++ 46 :: loc := by
      show ss i ++ dotted [nm (H i).e, nm (H i).g, nm (H i).f, loc] = _
      simp [dotted]
    refine' ex_assign (d := .str (S (ss i ++ dotted [nm (H i).e, nm (H i).g, nm (H i).f]))) (Ev.cast (ev_strSlice ?fa .none (.some (ev_neg ?fb)) ?fc) ?fd) ?fe ?ff ?fg
    case fa => walk_at "ev"
    case fb => walk_at "ev"
    case fc => rw [S_len]; omega
    case fd => rw [hcut, slice_cut (by decide)]
    case fe => decide +kernel
    case ff => walk_at "sw"
    have labs3 : ∀ x ∈ [nm (H i).e, nm (H i).g, nm (H i).f], Lab x := fun x hx => labs x (v3 x hx)
    have GB := ladder_fn (prog := prog) C (ss_lab i) labs3 (by rw [List.length_append]; omega) (by show 3 ≤ 800; decide)
    have hnl := nm_loc hf
    have bch : ∀ c ∈ ss i ++ dotted [nm (H i).e, nm (H i).g, nm (H i).f], c < 128 := fun c hc => by
      rcases List.mem_append.mp hc with q | q
      · exact ((ss_lab i).2 c q).2.2
      · exact asc v3 c q
    have blen : (ss i ++ dotted [nm (H i).e, nm (H i).g, nm (H i).f]).length ≤ 1000 := by rw [List.length_append]; omega
    -- second test: the third rung stands only where the last label is local
    have chB : ∀ {l : List (List Nat)}, (∀ x ∈ l, x = ss i ++ dotted [nm (H i).e, nm (H i).g, nm (H i).f] ∨ x = dotted [nm (H i).e, nm (H i).g, nm (H i).f] ∨ x = dotted [nm (H i).g, nm (H i).f] ∨ x = dotted [nm (H i).f]) → ∀ x ∈ l, (∀ c ∈ x, c < 128) ∧ x.length ≤ 1000 := fun {l} h x hx => by
      rcases h x hx with rfl | rfl | rfl | rfl
      · exact ⟨bch, blen⟩
      · exact ⟨asc v3, Nat.le_trans o3 (by decide)⟩
      · exact ⟨asc v2, Nat.le_trans o2 (by decide)⟩
      · exact ⟨asc v1, Nat.le_trans o1 (by decide)⟩
    have rB : rungs [nm (H i).e, nm (H i).g, nm (H i).f] = dotted [nm (H i).e, nm (H i).g, nm (H i).f] :: dotted [nm (H i).g, nm (H i).f] :: (if (nm (H i).f == loc) = true then [dotted [nm (H i).f]] else []) := rfl
    rw [rB] at GB
    refine' ex_if_no0 (tr_cmp (a := .lst (((ss i ++ dotted [nm (H i).e, nm (H i).g, nm (H i).f]) :: (dotted [nm (H i).e, nm (H i).g, nm (H i).f] :: dotted [nm (H i).g, nm (H i).f] :: (if (nm (H i).f == loc) = true then [dotted [nm (H i).f]] else []))).map fun x => D.str (S x))) (Ev.cast ?zt1 ?zt1e) (Ev.cast (ev_bin ?zt2 (ev_compC (ys := (dotted [nm (H i).e, nm (H i).g, nm (H i).f] :: dotted [nm (H i).g, nm (H i).f] :: (if (nm (H i).f == loc) = true then [dotted [nm (H i).f]] else [])).map fun x => D.str (S x)) (src_range3 C ?zt3 ?zt4 ?zt5 ?zt6 ?zt7) ?zt8 ?zt9 ?zu1 ?zu2 ?zu3 ?zu4) (bi_lst ?zu5)) ?zu6) (cm_strs_ne (chB ?zub)) ?zu7) ?zu8
    case zt1 => walk_at "ev"
    case zt1e => rfl
    case zt2 => walk_at "ev"
    case zt3 => decide +kernel
    case zt4 => rfl
    case zt5 => walk_at "ev"
    case zt6 => rfl
    case zt7 => intro _; rfl
    case zt8 => walk_at "cp"
    case zt9 =>
      refine' compI ?zba (tr_cast (tr_or (trOr_cons (b := true) (c := true) (tr_cast (b := decide ((0 : Int) < 2)) ?zbx rfl) (fun e => nomatch e))) rfl) (ev_dotjoin (x := nm (H i).e) (L := [nm (H i).g, nm (H i).f]) (Ev.cast (ev_slice ?zbb (.some ?zbc) (.some ?zbm) ?zbd) ?zbe) ?zbf ?zbg ?zbh ?zbi ?zbj ?zbk)
        (compI ?zca (tr_cast (tr_or (trOr_cons (b := true) (c := true) (tr_cast (b := decide ((1 : Int) < 2)) ?zcx rfl) (fun e => nomatch e))) rfl) (ev_dotjoin (x := nm (H i).g) (L := [nm (H i).f]) (Ev.cast (ev_slice ?zcb (.some ?zcc) (.some ?zcm) ?zcd) ?zce) ?zcf ?zcg ?zch ?zci ?zcj ?zck) ?zdz ?zcl) ?zbl
      case zbx => walk_at "tr"
      case zcx => walk_at "tr"
      case zdz =>
        cases hq : (nm (H i).f == loc) with
        | true =>
          refine' compI ?zda (tr_cast (tr_or (trOr_cons (b := false) (c := true) (tr_cast (b := decide ((2 : Int) < 2)) ?zdx rfl) (fun _ => trOr_one (tr_cast ?zdy ?zdw)))) rfl) (ev_dotjoin (x := nm (H i).f) (L := []) (Ev.cast (ev_slice ?zdb (.some ?zdc) (.some ?zdm) ?zdd) ?zde) ?zdf ?zdg ?zdh ?zdi ?zdj ?zdk) .nil ?zdl
          case zdx => walk_at "tr"
          case zdy => walk_at "tr"
          case zdw => rw [local_S, S_beq]; exact hq
          all_goals try walk_at "dj"
          all_goals assumption
        | false =>
          refine' compS ?zea (tr_cast (tr_or (trOr_cons (b := false) (c := false) (tr_cast (b := decide ((2 : Int) < 2)) ?zex rfl) (fun _ => trOr_one (tr_cast ?zey ?zew)))) rfl) .nil ?zel
          case zex => walk_at "tr"
          case zey => walk_at "tr"
          case zew => rw [local_S, S_beq]; exact hq
          all_goals try walk_at "dj"
      all_goals try walk_at "dj"
      all_goals assumption
    case zu1 => exact Nat.le_of_ble_eq_true rfl
    case zu2 => decide +kernel
    case zu3 => rfl
    case zu4 => intro _ _; rfl
    case zu5 => split <;> exact Nat.le_of_ble_eq_true rfl
    case zu6 => rfl
    case zub =>
      intro x hx
      split at hx
      · simpa using hx
      · simp at hx
        rcases hx with h | h | h
        · exact .inl h
        · exact .inr (.inl h)
        · exact .inr (.inr (.inl h))
    case zu7 => with_unfolding_all rfl
    -- told
    obtain ⟨k1, k2, k3, k4, k5, k6⟩ := splits he hg hf
    obtain ⟨ie1, ie2⟩ := idx_nm he
    obtain ⟨ig1, ig2⟩ := idx_nm hg
    obtain ⟨if1, if2⟩ := idx_nm hf
    refine' ex_assignC (ys := [.int (H i).e, .int (H i).g, .int (H i).f]) (src_lst (Ev.cast (d' := .lst [.str (S (nm (H i).e)), .str (S (nm (H i).g)), .str (S (nm (H i).f))]) (ev_slice (Ev.cast (ev_split (x := S (dotted (H i).labs)) (y := S [46]) ?ya (Ev.cast ?yb ?yc) k1 k2 k3 ?yd ?ye rfl ?yf ?yg) ?yh) (.some ?yi) (.some (ev_neg ?yj)) ?yk) ?yl)) ?ym
      (comp1 ?yn (ev_index (xs := [S (nm 0), S (nm 1), S (nm 2), S (nm 3), S (nm 4), S (nm 5), S (nm 6)]) (Ev.cast ?yo ?yp) ?yq ie1 ie2 ?yr rfl ?ys ?yt) (comp1 ?yn2 (ev_index (xs := [S (nm 0), S (nm 1), S (nm 2), S (nm 3), S (nm 4), S (nm 5), S (nm 6)]) (Ev.cast ?yo2 ?yp2) ?yq2 ig1 ig2 ?yr2 rfl ?ys2 ?yt2)
        (comp1 ?yn3 (ev_index (xs := [S (nm 0), S (nm 1), S (nm 2), S (nm 3), S (nm 4), S (nm 5), S (nm 6)]) (Ev.cast ?yo3 ?yp3) ?yq3 if1 if2 ?yr3 rfl ?ys3 ?yt3) .nil ?yu3) ?yu2) ?yu) ?yv ?yw ?yx (by decide +kernel) ?yy ?yz ?ny rfl
    case ya => walk_at "ev"
    case yb => walk_at "ev"
    case yc => rw [dot_S]
    case yd => exact Nat.le_trans k4 (by unfold sizeLine; decide)
    case ye => exact Nat.le_trans k5 (by unfold sizeLine; decide)
    case yf => intro _; rfl
    case yg => intro _; rfl
    case yh => rw [k6]
    case yi => walk_at "ev"
    case yj => walk_at "ev"
    case yk => exact Nat.le_of_ble_eq_true rfl
    case yl => rfl
    case ym => walk_at "cp"
    case yo => walk_at "ev"
    case yo2 => walk_at "ev"
    case yo3 => walk_at "ev"
    case yq => walk_at "ev"
    case yq2 => walk_at "ev"
    case yq3 => walk_at "ev"
    case yy => exact swap_local (by decide +kernel) rfl rfl (by decide +kernel)
    case ny =>
      obtain ⟨pq, pr, ps, P1, P2, P3, pe1, pe2, pe3⟩ := A.pt i hi
      have GP := painted_fn (prog := prog) C P1 P2 P3
      rw [pe1, pe2, pe3] at GP
      refine' ex_if_no0 (tr_cmp ?xa ?xb cm_ints_ne (by with_unfolding_all rfl)) ?xc
      case xa =>
        refine' ev_call C ?xd ?xe ?xf (evL_cons ?xg (evL_cons (ev_tupItem (k := 1) (xs := [.lst [.int (H i).e, .int (H i).g, .int (H i).f], (H i).left.d]) ?xh ?xi (by decide) rfl ?xj) (evL_cons ?xk evL_nil ?xl) ?xm) ?xn) GP ?xo ?xp ?xq
        case xd => decide +kernel
        case xe => rfl
        case xf => rfl
        case xg => walk_at "ev"
        case xh => walk_at "ev"
        case xi => exact ev_int
        case xj => intro _ _; rfl
        case xk => walk_at "ev"
        case xl => intro _; rfl
        case xm => intro _; rfl
        case xn => intro _; rfl
        case xo => rfl
        case xp => decide +kernel
        case xq => intro _; rfl
      case xb => walk_at "ev"
      have hnd : ∀ {k : Nat}, k < 4 → ∀ x ∈ hst H k, Sre.isDigit x = false ∧ x < 128 := fun {k} hk x hx => by
        rcases List.mem_append.mp hx with q | q
        · exact ⟨((ss_lab k).2 x q).1, ((ss_lab k).2 x q).2.2⟩
        · have hfk := A.fig k hk
          refine dotted_nd (fun y hy => ?_) x q
          simp only [List.mem_cons, List.not_mem_nil, or_false] at hy
          rcases hy with rfl | rfl | rfl | rfl
          · exact nm_lab hfk.1
          · exact nm_lab hfk.2.1
          · exact nm_lab hfk.2.2
          · exact loc_lab
      have hle : ∀ {k : Nat}, k < 4 → (hst H k).length ≤ 900 := fun {k} hk => by
        show (ss k ++ dotted (H k).labs).length ≤ 900
        have := dotted_len (L := (H k).labs) fun y hy => by
          simp only [List.mem_cons, List.not_mem_nil, or_false] at hy
          rcases hy with rfl | rfl | rfl | rfl
          · exact nm_len _
          · exact nm_len _
          · exact nm_len _
          · exact hloc
        have h2 : (ss k).length ≤ 4 := by unfold ss; rw [List.length_replicate]; omega
        have h3 : (H k).labs.length = 4 := rfl
        rw [List.length_append]; omega
      have hcons : ∀ k : Nat, hst H k = 115 :: (List.replicate k 115 ++ dotted (H k).labs) := fun k => rfl
      have fitU : ∀ {k : Nat}, k < 4 → PySem.Builtin.Str.tooLong (Txt.upper (S (hst H k))).length = false := fun {k} hk => by
        rw [upper_S fun x hx => (hnd hk x hx).2]
        unfold PySem.Builtin.Str.tooLong
        rw [S_len, List.length_map]
        simp only [decide_eq_false_iff_not, Nat.not_lt]
        have := hle hk
        unfold sizeLine; omega
      have GU := udm_low (prog := prog) C (l := hst H i) (c := 115) (m := List.replicate i 115 ++ dotted (H i).labs) (r := true) (hnd hi) (by rw [← hcons]; exact hnd hi) (hle hi) (by rw [← hcons]; exact hle hi) (by
        rw [if_neg (by decide), ← hcons]; exact beq_self_eq_true _)
      rw [← hcons] at GU
      refine' ex_if_no0 (tr_cast (b := !(true == true)) (tr_cmp (ev_call C ?wa ?wb ?wc (evL_cons (ev_upper ?wd (fitU hi) rfl ?we) (evL_cons ?wf evL_nil ?wg) ?wh) GU ?wi ?wj ?wk) ?wl cm_isnot (by with_unfolding_all rfl)) rfl) ?wm
      case wa => decide +kernel
      case wb => rfl
      case wc => rfl
      case wd => walk_at "ev"
      case we => intro _; rfl
      case wf => walk_at "ev"
      case wg => intro _; rfl
      case wh => intro _; rfl
      case wi => rfl
      case wj => decide +kernel
      case wk => intro _; rfl
      case wl => walk_at "ev"
      -- the other hosts
      refine' ex_for (σ' := (Str.ofString "told", .lst [.int (H i).e, .int (H i).g, .int (H i).f]) :: (Str.ofString "bare", .str (S (ss i ++ dotted [nm (H i).e, nm (H i).g, nm (H i).f]))) :: (Str.ofString "ladder", .lst ([hst H i, dotted (H i).labs, dotted [nm (H i).g, nm (H i).f, loc], dotted [nm (H i).f, loc], dotted [loc]].map fun x => D.str (S x))) :: (Str.ofString "i", .int i) :: lawSt H v)
        (src_range2 C (a := (i : Int) + 1) (b := 4) (k := 3 - i) ?va ?vb ?vc ?vd ?ve ?vf ?vg ?vh ?vi ?vj ?vk) (forL_const ?vturn) (by decide +kernel) ?vrest (by intro _ _; rfl)
      case va => decide +kernel
      case vb => rfl
      case vc => walk_at "ev"
      case vd => walk_at "ev"
      case ve => omega
      case vf => decide
      case vg => omega
      case vh => rfl
      case vi => intro _; rfl
      case vj => intro _; rfl
      case vk => intro _; rfl
      case vrest => exact ex_end (sub_cons rfl (sub_cons rfl (sub_cons rfl (sub_cons rfl (sub_cons rfl (sub_cons rfl (sub_cons rfl sub_nil)))))))
      case vturn =>
        intro d hd
        obtain ⟨j, hij, hj, rfl⟩ : ∃ j : Nat, i < j ∧ j < 4 ∧ d = .int j := by
          unfold intsFrom at hd
          obtain ⟨q, hq, rfl⟩ := List.mem_map.mp hd
          rw [List.mem_range] at hq
          refine ⟨i + 1 + q, by omega, by omega, ?_⟩
          congr 1 <;> omega
        have sH := at4 (f := fun i => .str (S (hst H i))) hj
        have sW := at4 (f := fun i => .int (H i).wt) hj
        obtain ⟨je, jg, jf⟩ := A.fig j hj
        obtain ⟨q1, q2, q3⟩ := A.wts i j hi hj
        obtain ⟨z1, z2, z3, z4⟩ := suf4 (p := ss j) he hg hf je jg jf
        have hdn : ∀ {L : List (List Nat)}, (∀ y ∈ L, y ∈ [nm (H i).e, nm (H i).g, nm (H i).f, loc]) → ∀ c ∈ dotted L, Sre.isDigit c = false ∧ c < 128 := fun {L} h c hc => dotted_nd (fun y hy => labs y (h y hy)) c hc
        have U0 := udm_low (prog := prog) C (l := hst H j) (c := 115) (m := List.replicate i 115 ++ dotted (H i).labs) (r := false) (hnd hj) (by rw [← hcons]; exact hnd hi) (hle hj) (by rw [← hcons]; exact hle hi) (by
          rw [if_neg (by decide), ← hcons, beq_eq_false_iff_ne]
          intro e
          have e1 : low (hst H j) = low (ss j) ++ 46 :: low (nm (H j).e ++ dotted [nm (H j).g, nm (H j).f, loc]) := by
            show low (ss j ++ 46 :: (nm (H j).e ++ dotted [nm (H j).g, nm (H j).f, loc])) = _
            unfold low; rw [List.map_append, List.map_cons]; rfl
          have e2 : low (hst H i) = low (ss i) ++ 46 :: low (nm (H i).e ++ dotted [nm (H i).g, nm (H i).f, loc]) := by
            show low (ss i ++ 46 :: (nm (H i).e ++ dotted [nm (H i).g, nm (H i).f, loc])) = _
            unfold low; rw [List.map_append, List.map_cons]; rfl
          rw [e1, e2] at e
          have := (pre_cancel (low_dotfree (ss_lab j).dotfree) (low_dotfree (ss_lab i).dotfree)).mp ⟨[], (List.append_nil _).trans e⟩
          have := congrArg List.length this.1
          unfold low ss at this
          rw [List.length_map, List.length_map, List.length_replicate, List.length_replicate] at this
          omega)
        rw [← hcons] at U0
        have U1 := udm_low (prog := prog) C (l := hst H j) (c := 46) (m := nm (H i).e ++ dotted [nm (H i).g, nm (H i).f, loc]) (r := decide (((H j).wt - (H i).wt).fmod 343 = 0)) (hnd hj) (hdn w4) (hle hj) n4 (by
          rw [if_pos (by decide)]; exact decide_eq_decide.mpr (z1.trans q1.symm))
        have U2 := udm_low (prog := prog) C (l := hst H j) (c := 46) (m := nm (H i).g ++ dotted [nm (H i).f, loc]) (r := decide (((H j).wt - (H i).wt).fmod 49 = 0)) (hnd hj) (hdn w3) (hle hj) n3 (by
          rw [if_pos (by decide)]; exact decide_eq_decide.mpr (z2.trans q2.symm))
        have U3 := udm_low (prog := prog) C (l := hst H j) (c := 46) (m := nm (H i).f ++ dotted [loc]) (r := decide (((H j).wt - (H i).wt).fmod 7 = 0)) (hnd hj) (hdn w2) (hle hj) n2 (by
          rw [if_pos (by decide)]; exact decide_eq_decide.mpr (z3.trans q3.symm))
        have U4 := udm_low (prog := prog) C (l := hst H j) (c := 46) (m := loc ++ dotted []) (r := true) (hnd hj) (hdn w1) (hle hj) n1 (by
          rw [if_pos (by decide)]; exact decide_eq_true z4)
        have fu := fitU hj
        refine' ex_assignC (ys := [.bool false, .bool (decide (((H j).wt - (H i).wt).fmod 343 = 0)), .bool (decide (((H j).wt - (H i).wt).fmod 49 = 0)), .bool (decide (((H j).wt - (H i).wt).fmod 7 = 0)), .bool true]) (src_lst (Ev.cast (d' := .lst [.str (S (hst H i)), .str (S (46 :: (nm (H i).e ++ dotted [nm (H i).g, nm (H i).f, loc]))), .str (S (46 :: (nm (H i).g ++ dotted [nm (H i).f, loc]))), .str (S (46 :: (nm (H i).f ++ dotted [loc]))), .str (S (46 :: (loc ++ dotted [])))]) ?aa ?ab)) ?ac ?ad ?ae ?af ?ag (by decide +kernel) ?ah ?ai ?aj rfl
        case aa => walk_at "ev"
        case ab => rfl
        case ac => walk_at "cp"
        case ad => walk_at "cl"
        case ae => exact Nat.le_of_ble_eq_true rfl
        case af => decide +kernel
        case ag => rfl
        case ah => exact swap_local (by decide +kernel) rfl rfl (by decide +kernel)
        case ai => intro _ _; rfl
        refine' ex_if_no0 (tr_cmp ?ak (Ev.cast ?al ?am) ?ao (by with_unfolding_all rfl)) ?an
        case ak => walk_at "ev"
        case al => walk_at "ev"
        case ao => exact cm_lst_ne rfl
        case am =>
          have e1 : (((H j).wt - (H i).wt).fmod 1 == 0) = true := by rw [Int.fmod_one]; rfl
          show D.lst [.bool false, .bool (((H j).wt - (H i).wt).fmod 343 == 0), .bool (((H j).wt - (H i).wt).fmod 49 == 0), .bool (((H j).wt - (H i).wt).fmod 7 == 0), .bool (((H j).wt - (H i).wt).fmod 1 == 0)] = _
          rw [e1]; rfl
        exact ex_end ((sub_cons rfl (sub_cons rfl (sub_cons rfl (sub_cons rfl (sub_cons rfl (sub_cons rfl (sub_cons rfl (sub_cons rfl (sub_cons rfl (sub_cons rfl (sub_cons rfl sub_nil))))))))))))
    all_goals first | rfl | decide +kernel | exact Nat.le_of_ble_eq_true rfl | (intro _; rfl) | (intro _ _; rfl)
end
end
end Mine
end

section
set_option Elab.async false
set_option linter.unusedVariables false
namespace Mine
open PySem PySem.Float64

theorem V_any : ∀ (k : Nat) (q : Nat), q ≤ 2 ^ 53 → ∃ t, V t = q * 2 ^ k
  | 0, q, h => ⟨_, V_at (k := 0) h (.inr rfl)⟩
  | k + 1, q, h => by
    by_cases h2 : 2 ^ 52 ≤ q
    · exact ⟨_, V_at h (.inl h2)⟩
    · obtain ⟨t, ht⟩ := V_any k (2 * q) (by omega)
      refine ⟨t, ht.trans ?_⟩
      rw [Nat.pow_succ]; ac_rfl

theorem right_fin {r : UInt64} {neg : Bool} {W D : Nat} (h : Right r neg W D) (hD : 0 < D) (hW : W ≤ 64 * 2 ^ 1074 * D) :
    ∃ m e, decode r = .fin neg m e ∧ ∃ t, val r = sgn neg (V t) ∧ ∀ t', dist W (D * V t) ≤ dist W (D * V t') := by
  obtain ⟨t, rfl, ht, hinf, hn⟩ := h
  have hlt : t < infMag := by
    rcases Nat.lt_or_ge t infMag with h | h
    · exact h
    · exfalso
      have h1 := hinf.mp (by omega)
      have e1 : (2 ^ 54 - 1) * 2 ^ 2045 = ((2 ^ 54 - 1) * 2 ^ 971) * 2 ^ 1074 := by rw [Nat.mul_assoc, ← Nat.pow_add]
      have big : 129 ≤ (2 ^ 54 - 1) * 2 ^ 971 := Nat.le_trans (show 129 ≤ 2 ^ 54 - 1 by decide) (Nat.le_mul_of_pos_right _ (Nat.two_pow_pos _))
      have hp : 0 < 2 ^ 1074 := Nat.two_pow_pos _
      rw [e1] at h1
      generalize (2 ^ 54 - 1) * 2 ^ 971 = B at *
      generalize 2 ^ 1074 = K at *
      have h2 : 129 * (K * D) ≤ B * (K * D) := Nat.mul_le_mul_right _ big
      have h3 : D * (B * K) = B * (K * D) := by ac_rfl
      have h4 : 64 * K * D = 64 * (K * D) := Nat.mul_assoc _ _ _
      have h5 : 0 < K * D := Nat.mul_pos hp hD
      omega
  obtain ⟨m, e, hd, hv⟩ := decode_pack neg hlt
  exact ⟨m, e, hd, t, val_pack neg hlt, fun t' => (hn hlt t').1⟩

theorem near_grid {W D : Nat} (hD : 0 < D) (hW : W ≤ 64 * 2 ^ 1074 * D) : ∃ t, dist W (D * V t) ≤ D * 2 ^ 1028 := by
  have hp : 0 < 2 ^ 1028 := Nat.two_pow_pos _
  have e8 : 64 * 2 ^ 1074 = 2 ^ 52 * 2 ^ 1028 := by
    rw [show (64 : Nat) = 2 ^ 6 by decide, ← Nat.pow_add, ← Nat.pow_add]
  rw [e8] at hW
  generalize hK : 2 ^ 1028 = K at *
  have hq : W / D / K ≤ 2 ^ 52 := by
    rw [Nat.div_div_eq_div_mul]
    refine Nat.div_le_of_le_mul ?_
    rw [show D * K * 2 ^ 52 = 2 ^ 52 * K * D by ac_rfl]; exact hW
  obtain ⟨t, ht⟩ := V_any 1028 (W / D / K) (by omega)
  refine ⟨t, ?_⟩
  rw [ht, hK]
  have h1 := Nat.div_add_mod W (D * K)
  have h2 := Nat.mod_lt W (Nat.mul_pos hD hp)
  rw [← Nat.div_div_eq_div_mul] at h1
  generalize W / D / K = q at *
  have e : D * (q * K) = D * K * q := by ac_rfl
  unfold dist
  rw [e]; omega

/-- the unit, kept shut -/
@[irreducible] def U : Nat := 2 ^ 1074
@[irreducible] def U0 : Nat := 2 ^ 1028
theorem U_eq : U = 2 ^ 1074 := by unfold U; rfl
theorem U0_eq : U0 = 2 ^ 1028 := by unfold U0; rfl
theorem U_pos : 0 < U := by rw [U_eq]; exact Nat.two_pow_pos _
theorem U0_pos : 0 < U0 := by rw [U0_eq]; exact Nat.two_pow_pos _
theorem U_U0 : U = 2 ^ 46 * U0 := by rw [U_eq, U0_eq, ← Nat.pow_add]

theorem dist_le {a b c : Nat} (h : dist a b ≤ c) : ((a : Int) - b ≤ c) ∧ ((b : Int) - a ≤ c) := by unfold dist at h; omega

/-- how far a rounded result may lie -/
theorem right_near {r : UInt64} {neg : Bool} {W D : Nat} (h : Right r neg W D) (hD : 0 < D) (hW : W ≤ 64 * U * D) :
    (∃ m e, decode r = .fin neg m e) ∧ ∃ v : Nat, val r = sgn neg v ∧ ((W : Int) - D * v ≤ D * U0) ∧ (((D * v : Nat) : Int) - W ≤ D * U0) ∧ ∀ q k : Nat, q ≤ 2 ^ 53 → W = D * (q * 2 ^ k) → v = q * 2 ^ k := by
  rw [U_eq] at hW
  obtain ⟨m, e, hd, t, hv, hn⟩ := right_fin h hD hW
  obtain ⟨t', ht'⟩ := near_grid hD hW
  have h1 := dist_le (Nat.le_trans (hn t') ht')
  refine ⟨⟨m, e, hd⟩, V t, hv, ?_, ?_, ?_⟩
  · rw [U0_eq]
    have := h1.1
    rw [Int.natCast_mul, Int.natCast_mul] at this
    exact this
  · rw [U0_eq]
    have := h1.2
    rw [Int.natCast_mul D (2 ^ 1028)] at this
    exact this
  · intro q k hq e
    obtain ⟨t2, h2⟩ := V_any k q hq
    have h3 := hn t2
    rw [h2, e] at h3
    have h4 : dist (D * (q * 2 ^ k)) (D * (q * 2 ^ k)) = 0 := by unfold dist; omega
    have h5 : D * V t = D * (q * 2 ^ k) := by
      rw [h4] at h3
      unfold dist at h3
      generalize D * (q * 2 ^ k) = z at *
      omega
    exact Nat.eq_of_mul_eq_mul_left hD h5
end Mine
end

section
set_option Elab.async false
set_option linter.unusedVariables false
namespace Mine
open PySem PySem.Float64

/-- the float x is finite and has the value r -/
structure Vl (x : UInt64) (r : Rat) : Prop where
  fin : ∃ a m e, decode x = .fin a m e
  eq : (val x : Rat) = r * (U : Rat)
abbrev eps : Rat := 1 / 1000000000
abbrev Nr (r t : Rat) : Prop := r - eps ≤ t ∧ t ≤ r + eps

theorem Uq_pos : (0 : Rat) < (U : Rat) := Rat.natCast_pos.mpr U_pos
theorem Uq_U0 : (U : Rat) = 70368744177664 * (U0 : Rat) := by rw [U_U0, Rat.natCast_mul]; rfl
theorem U0q_pos : (0 : Rat) < (U0 : Rat) := Rat.natCast_pos.mpr U0_pos
theorem Vl.uniq {x : UInt64} {r s : Rat} (h : Vl x r) (k : Vl x s) : r = s := by
  have h1 := h.eq
  rw [k.eq] at h1
  have h2 := Uq_pos
  have h3 : (s - r) * (U : Rat) = 0 := by grind
  rcases Rat.mul_eq_zero.mp h3 with h | h <;> grind
theorem vl_ex {x : UInt64} (h : ∃ a m e, decode x = .fin a m e) : ∃ r, Vl x r := by
  refine ⟨(val x : Rat) / (U : Rat), h, ?_⟩
  have := Uq_pos
  rw [Rat.div_mul_cancel]
  grind

theorem vl_core {x : UInt64} {D : Rat} {q : Rat} (h : ∃ a m e, decode x = .fin a m e) (hD : 0 < D) (h1 : D * (val x : Rat) - D * (q * (U : Rat)) ≤ D * (U0 : Rat)) (h2 : D * (q * (U : Rat)) - D * (val x : Rat) ≤ D * (U0 : Rat)) :
    ∃ t, Vl x t ∧ Nr q t := by
  obtain ⟨t, ht⟩ := vl_ex h
  refine ⟨t, ht, ?_⟩
  have h3 : D * ((val x : Rat) - q * (U : Rat)) ≤ D * (U0 : Rat) := by grind
  have h4 : D * (q * (U : Rat) - (val x : Rat)) ≤ D * (U0 : Rat) := by grind
  have h5 := Rat.le_of_mul_le_mul_left h3 hD
  have h6 := Rat.le_of_mul_le_mul_left h4 hD
  rw [ht.eq] at h5 h6
  have hu := U0q_pos
  rw [Uq_U0] at h5 h6
  have h7 : (U0 : Rat) * (70368744177664 * (t - q)) ≤ (U0 : Rat) * 1 := by grind
  have h8 : (U0 : Rat) * (70368744177664 * (q - t)) ≤ (U0 : Rat) * 1 := by grind
  have h9 := Rat.le_of_mul_le_mul_left h7 hu
  have h10 := Rat.le_of_mul_le_mul_left h8 hu
  constructor <;> grind

theorem sgn_near {neg : Bool} {W v D B : Nat} (h1 : (W : Int) - D * v ≤ B) (h2 : ((D * v : Nat) : Int) - W ≤ B) :
    (D : Int) * sgn neg v - sgn neg W ≤ B ∧ sgn neg W - (D : Int) * sgn neg v ≤ B := by
  rw [Int.natCast_mul] at h2
  unfold sgn
  cases neg
  · simp only [Bool.false_eq_true, if_false]; omega
  · simp only [if_true, Int.mul_neg]; omega
theorem sgn_of {i : Int} : sgn (decide (i < 0)) i.natAbs = i := by
  unfold sgn
  by_cases h : i < 0
  · rw [decide_eq_true h]; simp only [if_true]; omega
  · rw [decide_eq_false h]; simp only [Bool.false_eq_true, if_false]; omega
theorem zero_vl (b : Bool) : Vl (zero b) 0 := by
  obtain ⟨m, e, hd, hv⟩ := decode_pack b (t := 0) (by decide)
  refine ⟨⟨_, _, _, hd⟩, ?_⟩
  show ((val (pack b 0) : Int) : Rat) = _
  rw [val_pack b (by decide), V_zero]
  unfold sgn
  cases b <;> simp

theorem vl_add {x y : UInt64} {r s : Rat} (hx : Vl x r) (hy : Vl y s) (h1 : -64 ≤ r + s) (h2 : r + s ≤ 64) : ∃ t, Vl (add x y) t ∧ Nr (r + s) t := by
  obtain ⟨a, m, e, dx⟩ := hx.fin
  obtain ⟨b, k, f, dy⟩ := hy.fin
  have R := add_right dx dy
  have hs : ((val x + val y : Int) : Rat) = (r + s) * (U : Rat) := by rw [Rat.intCast_add, hx.eq, hy.eq]; grind
  have hu := Uq_pos
  by_cases h0 : val x + val y = 0
  · rw [R.1 h0]
    rw [h0] at hs
    have h3 : (r + s) * (U : Rat) = 0 := by rw [← hs]; rfl
    have h4 : r + s = 0 := by rcases Rat.mul_eq_zero.mp h3 with h | h <;> grind
    exact ⟨0, zero_vl _, by constructor <;> grind⟩
  · have hW : (val x + val y).natAbs ≤ 64 * U * 1 := by
      have h3 : ((val x + val y : Int) : Rat) ≤ ((64 * U : Nat) : Rat) := by rw [hs, Rat.natCast_mul]; exact Rat.mul_le_mul_of_nonneg_right h2 (by grind)
      have h4 : (((-(64 * U : Nat)) : Int) : Rat) ≤ ((val x + val y : Int) : Rat) := by
        rw [hs, Rat.intCast_neg, Rat.intCast_natCast, Rat.natCast_mul]
        have := Rat.mul_le_mul_of_nonneg_right h1 (by grind : (0 : Rat) ≤ (U : Rat))
        have e8 : ((64 : Nat) : Rat) = 64 := rfl
        grind
      rw [← Rat.intCast_natCast] at h3
      have h5 := Rat.intCast_le_intCast.mp h3
      have h6 := Rat.intCast_le_intCast.mp h4
      omega
    obtain ⟨⟨m', e', hd⟩, v, hv, n1, n2, _⟩ := right_near (R.2 h0) (by decide) hW
    refine vl_core (D := 1) ⟨_, _, _, hd⟩ (by decide) ?_ ?_
    all_goals
      have n1' : (((val x + val y).natAbs : Nat) : Int) - ((1 : Nat) : Int) * (v : Int) ≤ ((1 * U0 : Nat) : Int) := by omega
      have n2' : ((1 * v : Nat) : Int) - (((val x + val y).natAbs : Nat) : Int) ≤ ((1 * U0 : Nat) : Int) := by omega
      have n3 := sgn_near (neg := decide (val x + val y < 0)) n1' n2'
      rw [← hv, sgn_of] at n3
      rw [← hs, Rat.one_mul, Rat.one_mul, Rat.one_mul, ← Rat.intCast_sub, ← Rat.intCast_natCast]
      refine Rat.intCast_le_intCast.mpr ?_
      omega
end Mine
end

section
set_option Elab.async false
set_option linter.unusedVariables false
namespace Mine
open PySem PySem.Float64

theorem vl_neg {x : UInt64} {r : Rat} (h : Vl x r) : Vl (neg x) (-r) := by
  obtain ⟨a, m, e, d⟩ := h.fin
  refine ⟨⟨_, _, _, neg_decode d⟩, ?_⟩
  rw [neg_val d, Rat.intCast_neg, h.eq]; grind
theorem vl_sub {x y : UInt64} {r s : Rat} (hx : Vl x r) (hy : Vl y s) (h1 : -64 ≤ r - s) (h2 : r - s ≤ 64) : ∃ t, Vl (sub x y) t ∧ Nr (r - s) t := by
  have := vl_add hx (vl_neg hy) (by grind) (by grind)
  rw [← Rat.sub_eq_add_neg] at this
  unfold sub
  exact this
theorem vl_sub_self {x : UInt64} {r : Rat} (hx : Vl x r) : Vl (sub x x) 0 := by
  obtain ⟨a, m, e, d⟩ := hx.fin
  rw [(sub_right d d).1 (by omega)]
  exact zero_vl _

theorem sgn_sgn (a b : Bool) (m k : Nat) : sgn a m * sgn b k = sgn (a != b) (m * k) := by
  unfold sgn
  cases a <;> cases b <;> simp [Int.natCast_mul, Int.neg_mul, Int.mul_neg]
theorem val_sgn {x : UInt64} {a : Bool} {m : Nat} {e : Int} (h : decode x = .fin a m e) : val x = sgn a (val x).natAbs := by
  rw [val_natAbs h, val_eq h]
theorem abs_le_of {i : Int} {n : Nat} {r : Rat} (h : (i : Rat) = r * (n : Rat)) (hn : (0 : Rat) ≤ (n : Rat)) {B : Nat} (h1 : -(B : Rat) ≤ r) (h2 : r ≤ (B : Rat)) : i.natAbs ≤ B * n := by
  have h3 : (i : Rat) ≤ ((B * n : Nat) : Rat) := by rw [h, Rat.natCast_mul]; exact Rat.mul_le_mul_of_nonneg_right h2 hn
  have h4 : (((-(B * n : Nat)) : Int) : Rat) ≤ (i : Rat) := by
    rw [h, Rat.intCast_neg, Rat.intCast_natCast, Rat.natCast_mul]
    have := Rat.mul_le_mul_of_nonneg_right h1 hn
    grind
  rw [← Rat.intCast_natCast] at h3
  have h5 := Rat.intCast_le_intCast.mp h3
  have h6 := Rat.intCast_le_intCast.mp h4
  omega

theorem vl_mul {x y : UInt64} {r s : Rat} (hx : Vl x r) (hy : Vl y s) (h1 : -64 ≤ r * s) (h2 : r * s ≤ 64) : ∃ t, Vl (mul x y) t ∧ Nr (r * s) t := by
  obtain ⟨a, m, e, dx⟩ := hx.fin
  obtain ⟨b, k, f, dy⟩ := hy.fin
  have R := mul_right dx dy
  rw [← U_eq] at R
  have hu := Uq_pos
  have hs : ((val x * val y : Int) : Rat) = (r * s) * ((U * U : Nat) : Rat) := by rw [Rat.intCast_mul, hx.eq, hy.eq, Rat.natCast_mul]; grind
  have hW : (val x).natAbs * (val y).natAbs ≤ 64 * U * U := by
    have := abs_le_of hs Rat.natCast_nonneg (B := 64) (by grind) (by grind)
    rw [Int.natAbs_mul] at this
    rw [Nat.mul_assoc]; exact this
  obtain ⟨⟨m', e', hd⟩, v, hv, n1, n2, _⟩ := right_near R U_pos hW
  refine vl_core (D := (U : Rat)) ⟨_, _, _, hd⟩ hu ?_ ?_
  all_goals
    have n3 := sgn_near (neg := a != b) (W := (val x).natAbs * (val y).natAbs) (v := v) (D := U) (B := U * U0) (by rw [Int.natCast_mul U U0]; exact n1) (by rw [Int.natCast_mul U U0]; exact n2)
    rw [← hv, ← sgn_sgn, ← val_sgn dx, ← val_sgn dy] at n3
    have e1 : (U : Rat) * (r * s * (U : Rat)) = ((val x * val y : Int) : Rat) := by rw [hs, Rat.natCast_mul]; grind
    rw [e1, ← Rat.natCast_mul, ← Rat.intCast_natCast, ← Rat.intCast_natCast, ← Rat.intCast_mul, ← Rat.intCast_sub]
    refine Rat.intCast_le_intCast.mpr ?_
    omega

theorem vl_ne {x : UInt64} {r : Rat} {a : Bool} {m : Nat} {e : Int} (hx : Vl x r) (d : decode x = .fin a m e) (h : r ≠ 0) : m ≠ 0 := by
  intro h0
  have := hx.eq
  rw [val_eq d, h0, Nat.zero_mul] at this
  have h1 : sgn a 0 = 0 := by unfold sgn; cases a <;> rfl
  rw [h1] at this
  have hu := Uq_pos
  rcases Rat.mul_eq_zero.mp (this.symm.trans rfl : r * (U : Rat) = 0) with h | h <;> grind

theorem vl_div {x y : UInt64} {r s q : Rat} (hx : Vl x r) (hy : Vl y s) (h0 : s ≠ 0) (hq : q * s = r) (h1 : -64 ≤ q) (h2 : q ≤ 64) : ∃ t, Vl (div x y) t ∧ Nr q t := by
  obtain ⟨a, m, e, dx⟩ := hx.fin
  obtain ⟨b, k, f, dy⟩ := hy.fin
  have R := div_right dx dy (vl_ne hy dy h0)
  rw [← U_eq] at R
  have hu := Uq_pos
  have hy0 : val y ≠ 0 := by
    intro h
    have := hy.eq
    rw [h] at this
    rcases Rat.mul_eq_zero.mp (this.symm.trans rfl : s * (U : Rat) = 0) with h | h <;> grind
  have hD : 0 < (val y).natAbs := by omega
  have hs : ((val x * (U : Int) : Int) : Rat) = q * ((val y * (U : Int) : Int) : Rat) := by rw [Rat.intCast_mul, Rat.intCast_mul, hx.eq, hy.eq, ← hq]; grind
  obtain ⟨sy, hsy⟩ : ∃ sy : Int, (val y).natAbs = sy * val y ∧ (sy = 1 ∨ sy = -1) ∧ ((b = true → sy = -1) ∧ (b = false → sy = 1)) := by
    have := val_sgn dy
    cases b
    · refine ⟨1, ?_, .inl rfl, by simp, by simp⟩
      unfold sgn at this; simp at this; omega
    · refine ⟨-1, ?_, .inr rfl, by simp, by simp⟩
      unfold sgn at this; simp at this; omega
  obtain ⟨hsy, hs1, hsb, hsf⟩ := hsy
  have hT : ((sy * (val x * (U : Int)) : Int) : Rat) = q * (((val y).natAbs * U : Nat) : Rat) := by
    have e1 : (((val y).natAbs * U : Nat) : Rat) = ((sy * (val y * (U : Int)) : Int) : Rat) := by
      rw [← Rat.intCast_natCast, Int.natCast_mul, hsy, Int.mul_assoc]
    rw [e1, Rat.intCast_mul, hs, Rat.intCast_mul sy]; grind
  have hab : (sy * (val x * (U : Int))).natAbs = (val x).natAbs * U := by
    rw [Int.natAbs_mul, Int.natAbs_mul, Int.natAbs_natCast]
    rcases hs1 with h | h <;> simp [h]
  have hW : (val x).natAbs * U ≤ 64 * U * (val y).natAbs := by
    have := abs_le_of hT Rat.natCast_nonneg (B := 64) (by grind) (by grind)
    rw [hab] at this
    refine Nat.le_trans this (Nat.le_of_eq ?_)
    ac_rfl
  obtain ⟨⟨m', e', hd⟩, v, hv, n1, n2, _⟩ := right_near R hD hW
  have hsg : sgn (a != b) ((val x).natAbs * U) = sy * (val x * (U : Int)) := by
    have h1 := val_sgn dx
    rw [show sy * (val x * (U : Int)) = sy * val x * (U : Int) by rw [Int.mul_assoc]]
    rw [sgn_mul]
    congr 1
    cases b
    · rw [hsf rfl, Int.one_mul]
      refine Eq.trans ?_ h1.symm
      cases a <;> rfl
    · rw [hsb rfl]
      unfold sgn at h1 ⊢
      cases a
      · simp at h1 ⊢; omega
      · simp at h1 ⊢; omega
  refine vl_core (D := ((val y).natAbs : Rat)) ⟨_, _, _, hd⟩ (Rat.natCast_pos.mpr hD) ?_ ?_
  all_goals
    have n3 := sgn_near (neg := a != b) (W := (val x).natAbs * U) (v := v) (D := (val y).natAbs) (B := (val y).natAbs * U0) (by rw [Int.natCast_mul _ U0]; exact n1) (by rw [Int.natCast_mul _ U0]; exact n2)
    rw [← hv, hsg] at n3
    have e1 : ((val y).natAbs : Rat) * (q * (U : Rat)) = ((sy * (val x * (U : Int)) : Int) : Rat) := by rw [hT, Rat.natCast_mul]; grind
    rw [e1, ← Rat.natCast_mul, ← Rat.intCast_natCast, ← Rat.intCast_natCast, ← Rat.intCast_mul, ← Rat.intCast_sub]
    refine Rat.intCast_le_intCast.mpr ?_
    omega
end Mine
end

section
set_option Elab.async false
set_option linter.unusedVariables false
namespace Mine
open PySem PySem.Float64

theorem vl_of_val {x y : UInt64} {r : Rat} (h : ∃ a m e, decode x = .fin a m e) (k : (val x : Rat) = r * (U : Rat)) : Vl x r := ⟨h, k⟩
theorem Vl.lt {x y : UInt64} {r s : Rat} (hx : Vl x r) (hy : Vl y s) : val x < val y ↔ r < s := by
  rw [← Rat.intCast_lt_intCast, hx.eq, hy.eq]
  exact Rat.mul_lt_mul_right Uq_pos
theorem vl_cmp_lt {x y : UInt64} {r s : Rat} (hx : Vl x r) (hy : Vl y s) (h : r < s) : cmp x y = some .lt := by
  obtain ⟨a, m, e, dx⟩ := hx.fin
  obtain ⟨b, k, f, dy⟩ := hy.fin
  rw [cmp_right dx dy, Int.compare_eq_lt.mpr ((hx.lt hy).mpr h)]
theorem vl_cmp_gt {x y : UInt64} {r s : Rat} (hx : Vl x r) (hy : Vl y s) (h : s < r) : cmp x y = some .gt := by
  obtain ⟨a, m, e, dx⟩ := hx.fin
  obtain ⟨b, k, f, dy⟩ := hy.fin
  rw [cmp_right dx dy, Int.compare_eq_gt.mpr ((hy.lt hx).mpr h)]
theorem vl_cmp_eq {x y : UInt64} {r s : Rat} (hx : Vl x r) (hy : Vl y s) (h : r = s) : cmp x y = some .eq := by
  obtain ⟨a, m, e, dx⟩ := hx.fin
  obtain ⟨b, k, f, dy⟩ := hy.fin
  have h1 : ¬ val x < val y := fun q => by have := (hx.lt hy).mp q; grind
  have h2 : ¬ val y < val x := fun q => by have := (hy.lt hx).mp q; grind
  have : val x = val y := by omega
  rw [cmp_right dx dy, this]; simp
theorem vl_ltb {x y : UInt64} {r s : Rat} (hx : Vl x r) (hy : Vl y s) : (cmp x y == some .lt) = decide (r < s) := by
  by_cases h : r < s
  · rw [vl_cmp_lt hx hy h, decide_eq_true h]; rfl
  · rw [decide_eq_false h]
    by_cases h2 : r = s
    · rw [vl_cmp_eq hx hy h2]; rfl
    · rw [vl_cmp_gt hx hy (by grind)]; rfl
theorem vl_eqb {x y : UInt64} {r s : Rat} (hx : Vl x r) (hy : Vl y s) : (cmp x y == some .eq) = decide (r = s) := by
  by_cases h : r < s
  · rw [vl_cmp_lt hx hy h, decide_eq_false (by grind)]; rfl
  · by_cases h2 : r = s
    · rw [vl_cmp_eq hx hy h2, decide_eq_true h2]; rfl
    · rw [vl_cmp_gt hx hy (by grind), decide_eq_false h2]; rfl
theorem vl_cmpInt {x : UInt64} {r : Rat} (hx : Vl x r) (i : Int) : cmpInt x i = some (compare (val x) (i * (U : Int))) := by
  obtain ⟨a, m, e, dx⟩ := hx.fin
  rw [cmpInt_right dx, U_eq, Int.natCast_pow]; rfl
theorem vl_iq {r : Rat} {x : UInt64} (hx : Vl x r) (i : Int) : (val x < i * (U : Int) ↔ r < (i : Rat)) ∧ (i * (U : Int) < val x ↔ (i : Rat) < r) := by
  rw [← Rat.intCast_lt_intCast, ← Rat.intCast_lt_intCast, hx.eq, Rat.intCast_mul, Rat.intCast_natCast]
  exact ⟨Rat.mul_lt_mul_right Uq_pos, Rat.mul_lt_mul_right Uq_pos⟩
theorem vl_int_ge {x : UInt64} {r : Rat} (hx : Vl x r) {i : Int} (h : (i : Rat) ≤ r) : (cmpInt x i == some .lt) = false := by
  rw [vl_cmpInt hx]
  have h1 : ¬ val x < i * (U : Int) := fun q => by have := (vl_iq hx i).1.mp q; grind
  have h2 := mt Int.compare_eq_lt.mp h1
  generalize compare (val x) (i * (U : Int)) = o at *
  cases o <;> simp_all
theorem vl_int_lt {x : UInt64} {r : Rat} (hx : Vl x r) {i : Int} (h : r < (i : Rat)) : (cmpInt x i == some .gt || cmpInt x i == some .eq) = false := by
  rw [vl_cmpInt hx, Int.compare_eq_lt.mpr ((vl_iq hx i).1.mpr h)]; rfl

theorem vl_isZero {x : UInt64} {r : Rat} (hx : Vl x r) : isZero x = decide (r = 0) := by
  obtain ⟨a, m, e, dx⟩ := hx.fin
  unfold isZero
  rw [dx]
  have hu := Uq_pos
  by_cases h : r = 0
  · rw [decide_eq_true h]
    have h1 := hx.eq
    rw [h, Rat.zero_mul] at h1
    have h2 : val x = 0 := Rat.intCast_eq_zero_iff.mp h1
    have h3 := val_natAbs dx
    rw [h2] at h3
    have h4 : m = 0 := by
      rcases Nat.mul_eq_zero.mp h3.symm with h | h
      · exact h
      · exact absurd h (Nat.ne_of_gt (Nat.two_pow_pos _))
    subst h4; rfl
  · rw [decide_eq_false h]
    have := vl_ne hx dx h
    cases m
    · exact absurd rfl this
    · rfl
theorem vl_finite {x : UInt64} {r : Rat} (hx : Vl x r) : isFinite x = true := by
  obtain ⟨a, m, e, dx⟩ := hx.fin
  unfold isFinite; rw [dx]

theorem decode_lt {x : UInt64} {a : Bool} {m : Nat} {e : Int} (h : decode x = .fin a m e) : m < 2 ^ 53 := by
  unfold decode at h
  simp only at h
  split at h
  · split at h <;> cases h
  · split at h <;> cases h <;> omega

theorem vl_sgn {x : UInt64} {r : Rat} {a : Bool} {m : Nat} {e : Int} (hx : Vl x r) (d : decode x = .fin a m e) : (0 < r → a = false) ∧ (r < 0 → a = true) := by
  have h0 := (vl_iq hx 0)
  rw [Int.zero_mul] at h0
  have hv := val_sgn d
  unfold sgn at hv
  constructor
  · intro h
    have := h0.2.mpr h
    cases a
    · rfl
    · simp at hv; omega
  · intro h
    have := h0.1.mpr h
    cases a
    · simp at hv; omega
    · rfl

/-- the floor, at nothing below zero -/
theorem vl_trunc {x : UInt64} {r : Rat} (hx : Vl x r) (h0 : 0 ≤ r) : ∃ n : Nat, PySem.Flt.toInt truncOf x = n ∧ (n : Rat) ≤ r ∧ r < (n : Rat) + 1 := by
  obtain ⟨a, m, e, d⟩ := hx.fin
  rw [PySem.Flt.toInt_fin d]
  have he := decode_ge d
  have hup := U_pos
  by_cases hz : r = 0
  · have hm : m = 0 := by
      rcases Nat.eq_zero_or_pos m with h | h
      · exact h
      · exfalso
        have h1 := vl_isZero hx
        unfold isZero at h1
        rw [d, decide_eq_true hz] at h1
        cases m
        · omega
        · simp at h1
    subst hm
    refine ⟨0, ?_, by grind, by grind⟩
    unfold truncOf ceilOf floorOf sgn
    cases a <;> simp
  · have ha : a = false := (vl_sgn hx d).1 (by grind)
    subst ha
    have hv : val x = ((m * 2 ^ (e + 1074).toNat : Nat) : Int) := by rw [val_eq d]; rfl
    have key : ∀ n : Nat, truncOf false m e = n → n * U ≤ m * 2 ^ (e + 1074).toNat → m * 2 ^ (e + 1074).toNat < (n + 1) * U → ∃ n : Nat, truncOf false m e = n ∧ (n : Rat) ≤ r ∧ r < (n : Rat) + 1 := by
      intro n h1 h2 h3
      have q := hx.eq
      rw [hv] at q
      refine ⟨n, h1, ?_, ?_⟩
      · have := Rat.natCast_le_natCast.mpr h2
        rw [← Rat.intCast_natCast (m * 2 ^ (e + 1074).toNat), q, Rat.natCast_mul] at this
        exact Rat.le_of_mul_le_mul_right this Uq_pos
      · have := Rat.natCast_lt_natCast.mpr h3
        rw [← Rat.intCast_natCast (m * 2 ^ (e + 1074).toNat), q, Rat.natCast_mul, Rat.natCast_add] at this
        exact (Rat.mul_lt_mul_right Uq_pos).mp this
    by_cases hge : e ≥ 0
    · have ee : (e + 1074).toNat = e.toNat + 1074 := by omega
      refine key (m * 2 ^ e.toNat) ?_ ?_ ?_
      · unfold truncOf floorOf sgn
        simp only [Bool.false_eq_true, if_false]
        rw [if_pos hge, Int.natCast_mul, Int.natCast_pow]; rfl
      · rw [ee, Nat.pow_add, U_eq, Nat.mul_assoc]; exact Nat.le_refl _
      · rw [ee, Nat.pow_add, ← U_eq, ← Nat.mul_assoc, Nat.add_mul]; omega
    · have ee : U = 2 ^ (-e).toNat * 2 ^ (e + 1074).toNat := by rw [U_eq, ← Nat.pow_add]; congr 1; omega
      have hp : 0 < 2 ^ (-e).toNat := Nat.two_pow_pos _
      have hp2 : 0 < 2 ^ (e + 1074).toNat := Nat.two_pow_pos _
      refine key (m / 2 ^ (-e).toNat) ?_ ?_ ?_
      · unfold truncOf floorOf sgn
        simp only [Bool.false_eq_true, if_false]
        rw [if_neg hge, Int.fdiv_eq_ediv_of_nonneg _ (Int.pow_nonneg (by decide)), Int.natCast_ediv, Int.natCast_pow]; rfl
      · rw [ee, ← Nat.mul_assoc]
        exact Nat.mul_le_mul_right _ (Nat.div_mul_le_self _ _)
      · rw [ee, ← Nat.mul_assoc]
        refine Nat.mul_lt_mul_of_pos_right ?_ hp2
        have := Nat.lt_div_mul_add hp (a := m)
        rw [Nat.add_mul, Nat.one_mul]; exact this
end Mine
end

section
set_option Elab.async false
set_option linter.unusedVariables false
namespace Mine
open PySem PySem.Float64

theorem U_64 : U = 64 * 2 ^ 1068 := by rw [U_eq, show (64 : Nat) = 2 ^ 6 by decide, ← Nat.pow_add]
theorem U_32 : U = 32 * 2 ^ 1069 := by rw [U_eq, show (32 : Nat) = 2 ^ 5 by decide, ← Nat.pow_add]
/-- sums of small multiples of 1/64 -/
theorem vl_add_exact {x y : UInt64} {r s : Rat} (hx : Vl x r) (hy : Vl y s) {j : Int} (h : 64 * (r + s) = (j : Rat)) (hb : j.natAbs ≤ 512) : Vl (add x y) (r + s) := by
  obtain ⟨a, m, e, dx⟩ := hx.fin
  obtain ⟨b, k, f, dy⟩ := hy.fin
  have R := add_right dx dy
  have hs : ((val x + val y : Int) : Rat) = (r + s) * (U : Rat) := by rw [Rat.intCast_add, hx.eq, hy.eq]; grind
  have hu := Uq_pos
  by_cases h0 : val x + val y = 0
  · rw [R.1 h0]
    rw [h0] at hs
    have h3 : (r + s) * (U : Rat) = 0 := by rw [← hs]; rfl
    have h4 : r + s = 0 := by rcases Rat.mul_eq_zero.mp h3 with h | h <;> grind
    rw [h4]
    exact zero_vl _
  · have hi : val x + val y = j * ((2 ^ 1068 : Nat) : Int) := by
      have : ((val x + val y : Int) : Rat) = ((j * ((2 ^ 1068 : Nat) : Int) : Int) : Rat) := by
        rw [hs, U_64, Rat.intCast_mul, ← h, Rat.natCast_mul, Rat.intCast_natCast]
        have e64 : ((64 : Nat) : Rat) = 64 := rfl
        generalize ((2 ^ 1068 : Nat) : Rat) = K
        rw [e64]; grind
      exact Rat.intCast_inj.mp this
    have hW : (val x + val y).natAbs ≤ 64 * U * 1 := by
      rw [hi, Int.natAbs_mul, Int.natAbs_natCast, U_64]
      generalize 2 ^ 1068 = K
      have := Nat.mul_le_mul_right K hb
      omega
    obtain ⟨hd, v, hv, n1, n2, hx'⟩ := right_near (R.2 h0) (by decide) hW
    have hv2 := hx' j.natAbs 1068 (by omega) (by rw [hi, Int.natAbs_mul, Int.natAbs_natCast, Nat.one_mul])
    obtain ⟨m', e', hd⟩ := hd
    refine ⟨⟨_, _, _, hd⟩, ?_⟩
    rw [hv, hv2, ← hs]
    have h5 : j.natAbs * 2 ^ 1068 = (val x + val y).natAbs := by rw [hi, Int.natAbs_mul, Int.natAbs_natCast]
    rw [h5, sgn_of]
theorem vl_sub_exact {x y : UInt64} {r s : Rat} (hx : Vl x r) (hy : Vl y s) {j : Int} (h : 64 * (r - s) = (j : Rat)) (hb : j.natAbs ≤ 512) : Vl (sub x y) (r - s) := by
  have := vl_add_exact hx (vl_neg hy) (j := j) (by grind) hb
  rw [← Rat.sub_eq_add_neg] at this
  unfold sub
  exact this

theorem vl_frac {k : Nat} (h : k ≤ 256) : Vl (ofFrac false k 32) ((k : Rat) / 32) := by
  have R := ofFrac_right (neg := false) (n := k) (d := 32) (W := k * 2 ^ 1069) (D := 1) (by decide) (by
    rw [Nat.mul_one, ← U_eq, U_32]; generalize 2 ^ 1069 = K; rw [Nat.mul_assoc, Nat.mul_comm K]) (by decide)
  have hW : k * 2 ^ 1069 ≤ 64 * U * 1 := by
    rw [U_32]
    generalize 2 ^ 1069 = K
    have := Nat.mul_le_mul_right K h
    omega
  obtain ⟨⟨m', e', hd⟩, v, hv, n1, n2, hx'⟩ := right_near R (by decide) hW
  refine ⟨⟨_, _, _, hd⟩, ?_⟩
  rw [hv, hx' k 1069 (by omega) (by rw [Nat.one_mul])]
  show (((k * 2 ^ 1069 : Nat) : Int) : Rat) = _
  rw [Rat.intCast_natCast, U_32, Rat.natCast_mul, Rat.natCast_mul]
  have e32 : ((32 : Nat) : Rat) = 32 := rfl
  generalize ((2 ^ 1069 : Nat) : Rat) = K
  rw [e32]; grind

theorem vl_const {x : UInt64} {m : Nat} {e : Int} (d : decode x = .fin false m e) (k : Nat) (he : e + k = 0) (hk : k ≤ 1074) {q : Rat} (hq : q * ((2 ^ k : Nat) : Rat) = (m : Rat)) : Vl x q := by
  refine ⟨⟨_, _, _, d⟩, ?_⟩
  rw [val_eq d]
  show (((m * 2 ^ (e + 1074).toNat : Nat) : Int) : Rat) = _
  have hU : U = 2 ^ k * 2 ^ (e + 1074).toNat := by rw [U_eq, ← Nat.pow_add]; congr 1; omega
  rw [Rat.intCast_natCast, Rat.natCast_mul, hU, Rat.natCast_mul, ← hq, Rat.mul_assoc]

theorem vl_10 : Vl 4607182418800017408 1 := vl_const (m := 4503599627370496) (e := -52) (by with_unfolding_all rfl) 52 (by decide) (by decide) (by decide +kernel)
theorem vl_05 : Vl 4602678819172646912 (1 / 2) := vl_const (m := 4503599627370496) (e := -53) (by with_unfolding_all rfl) 53 (by decide) (by decide) (by decide +kernel)
theorem vl_20 : Vl 4611686018427387904 2 := vl_const (m := 4503599627370496) (e := -51) (by with_unfolding_all rfl) 51 (by decide) (by decide) (by decide +kernel)
theorem vl_40 : Vl 4616189618054758400 4 := vl_const (m := 4503599627370496) (e := -50) (by with_unfolding_all rfl) 50 (by decide) (by decide) (by decide +kernel)
theorem vl_60 : Vl 4618441417868443648 6 := vl_const (m := 6755399441055744) (e := -50) (by with_unfolding_all rfl) 50 (by decide) (by decide) (by decide +kernel)
theorem vl_13 : Vl 4599676419421066581 (6004799503160661 / 18014398509481984) := vl_const (m := 6004799503160661) (e := -54) (by with_unfolding_all rfl) 54 (by decide) (by decide) (by decide +kernel)
theorem vl_16 : Vl 4595172819793696085 (6004799503160661 / 36028797018963968) := vl_const (m := 6004799503160661) (e := -55) (by with_unfolding_all rfl) 55 (by decide) (by decide) (by decide +kernel)
theorem vl_23 : Vl 4604180019048437077 (6004799503160661 / 9007199254740992) := vl_const (m := 6004799503160661) (e := -53) (by with_unfolding_all rfl) 53 (by decide) (by decide) (by decide +kernel)
theorem ofInt_small {n : Nat} (h : n ≤ 8) : Vl (ofInt n) n := by
  have : ofInt n = ofFrac false (n * 32) 32 := by
    have : ∀ n : Fin 9, ofInt (n.1 : Int) = ofFrac false (n.1 * 32) 32 := by decide +kernel
    exact this ⟨n, by omega⟩
  rw [this]
  have h1 := vl_frac (k := n * 32) (by omega)
  have e : ((n * 32 : Nat) : Rat) / 32 = (n : Rat) := by
    rw [Rat.natCast_mul]
    have e32 : ((32 : Nat) : Rat) = 32 := rfl
    rw [e32]; grind
  rwa [e] at h1
theorem vl_32 : Vl (ofInt 32) 32 := vl_const (m := 4503599627370496) (e := -47) (by with_unfolding_all rfl) 47 (by decide) (by decide) (by decide +kernel)
end Mine
end

section
set_option Elab.async false
set_option linter.unusedVariables false
namespace Mine
open PySem PySem.Float64

theorem vl_abs {x : UInt64} {r : Rat} {a : Bool} {m : Nat} {e : Int} (hx : Vl x r) (d : decode x = .fin a m e) :
    (0 ≤ r → ((m * 2 ^ (e + 1074).toNat : Nat) : Rat) = r * (U : Rat)) ∧ (r ≤ 0 → ((m * 2 ^ (e + 1074).toNat : Nat) : Rat) = -r * (U : Rat)) := by
  have h0 := (vl_iq hx 0)
  rw [Int.zero_mul] at h0
  have hv := val_natAbs d
  constructor
  · intro h
    have : ¬ val x < 0 := fun q => by have := h0.1.mp q; grind
    rw [← hx.eq, ← hv, ← Rat.intCast_natCast]
    congr 1; omega
  · intro h
    have : ¬ 0 < val x := fun q => by have := h0.2.mp q; grind
    rw [Rat.neg_mul, ← hx.eq, ← hv, ← Rat.intCast_natCast, ← Rat.intCast_neg]
    congr 1; omega

/-- the remainder by one, before its sign is mended -/
theorem vl_fmod {x : UInt64} {r : Rat} (hx : Vl x r) :
    ((-1 < r ∧ r < 1) → Vl (fmod x 4607182418800017408) r) ∧ ((1 ≤ r ∧ r < 2) → ∃ t, Vl (fmod x 4607182418800017408) t ∧ Nr (r - 1) t ∧ 0 ≤ t) := by
  obtain ⟨a, m, e, d⟩ := hx.fin
  have he := decode_ge d
  have hm := decode_lt d
  have d1 : decode 4607182418800017408 = .fin false (2 ^ 52) (-52) := by with_unfolding_all rfl
  obtain ⟨g, hg⟩ : ∃ g, g = min e (-52) := ⟨_, rfl⟩
  obtain ⟨p, hp⟩ : ∃ p, p = m * 2 ^ (e - g).toNat := ⟨_, rfl⟩
  obtain ⟨q, hq⟩ : ∃ q, q = 2 ^ 52 * 2 ^ (-52 - g).toNat := ⟨_, rfl⟩
  have hf : fmod x 4607182418800017408 = ofBin a (p % q) g := by
    unfold fmod
    rw [d, d1]
    show (if _ then _ else _) = _
    rw [if_neg (by decide)]
    show ofBin a ((sgn false (m * 2 ^ (e - min e (-52)).toNat)).toNat % (sgn false (2 ^ 52 * 2 ^ (-52 - min e (-52)).toNat)).toNat) (min e (-52)) = _
    rw [← hg, ← hp, ← hq]
    unfold sgn
    simp
  obtain ⟨B, hB⟩ : ∃ B, B = 2 ^ (g + 1074).toNat := ⟨_, rfl⟩
  have hBp : 0 < B := by rw [hB]; exact Nat.two_pow_pos _
  have hU : U = q * B := by
    rw [hq, hB, Nat.mul_assoc, ← Nat.pow_add, ← Nat.pow_add, U_eq]; congr 1; omega
  have hX : m * 2 ^ (e + 1074).toNat = p * B := by
    rw [hp, hB, Nat.mul_assoc, ← Nat.pow_add]; congr 2; omega
  have hqp : 0 < q := by rw [hq]; exact Nat.mul_pos (by decide) (Nat.two_pow_pos _)
  have R : Right (ofBin a (p % q) g) a ((p % q) * B) 1 := by
    unfold ofBin
    refine ofFrac_right (shift_pos _ _ _ (by decide)) ?_ (by decide)
    have := shift_one (p % q) g 1074 (by omega)
    rw [Nat.mul_one, hB]
    exact this
  rw [← hf] at R
  have hlt : p % q < q := Nat.mod_lt _ hqp
  have hW : p % q * B ≤ 64 * U * 1 := by
    have := Nat.mul_le_mul_right B (Nat.le_of_lt hlt)
    rw [← hU] at this
    omega
  obtain ⟨⟨m', e', hd⟩, v, hv, n1, n2, hex⟩ := right_near R (by decide) hW
  have hBq : (0 : Rat) < (B : Rat) := Rat.natCast_pos.mpr hBp
  have hab := vl_abs hx d
  rw [hX] at hab
  have hUq : (U : Rat) = (q : Rat) * (B : Rat) := by rw [hU, Rat.natCast_mul]
  constructor
  · intro ⟨h1, h2⟩
    have hpq : p < q := by
      refine Nat.lt_of_mul_lt_mul_right (a := B) ?_
      rw [← hU]
      refine Rat.natCast_lt_natCast.mp ?_
      have hu := Uq_pos
      rcases Rat.le_total (a := 0) (b := r) with h | h
      · rw [hab.1 h]
        have := Rat.mul_lt_mul_of_pos_right h2 hu
        grind
      · rw [hab.2 h]
        have := Rat.mul_lt_mul_of_pos_right h1 hu
        grind
    rw [Nat.mod_eq_of_lt hpq] at hex
    have := hex m (e + 1074).toNat (by omega) (by rw [Nat.one_mul, hX])
    refine ⟨⟨_, _, _, hd⟩, ?_⟩
    rw [hv, this, ← val_eq d, hx.eq]
  · intro ⟨h1, h2⟩
    have ha : a = false := (vl_sgn hx d).1 (by grind)
    have hpB := hab.1 (by grind)
    have hu := Uq_pos
    have hge : q ≤ p := by
      refine Nat.le_of_mul_le_mul_right (c := B) ?_ hBp
      rw [← hU]
      refine Rat.natCast_le_natCast.mp ?_
      rw [hpB]
      have := Rat.mul_le_mul_of_nonneg_right h1 (Rat.le_of_lt hu)
      grind
    have hlt2 : p < 2 * q := by
      refine Nat.lt_of_mul_lt_mul_right (a := B) ?_
      rw [Nat.mul_assoc, ← hU]
      refine Rat.natCast_lt_natCast.mp ?_
      rw [hpB, Rat.natCast_mul]
      have := Rat.mul_lt_mul_of_pos_right h2 hu
      exact this
    have hmod : p % q = p - q := by
      rw [Nat.mod_eq_sub_mod hge, Nat.mod_eq_of_lt (by omega)]
    subst ha
    have hv' : val (fmod x 4607182418800017408) = (v : Int) := hv
    rw [hmod] at n1 n2
    have hsub : (((p - q) * B : Nat) : Rat) = (r - 1) * (U : Rat) := by
      rw [Rat.natCast_mul]
      have h3 : ((p : Rat)) = ((p - q : Nat) : Rat) + (q : Rat) := by
        rw [← Rat.natCast_add]; congr 1; omega
      rw [Rat.natCast_mul] at hpB
      rw [h3] at hpB
      have : ((p - q : Nat) : Rat) * (B : Rat) + (q : Rat) * (B : Rat) = r * (U : Rat) := by rw [← hpB]; grind
      rw [← hUq] at this
      grind
    obtain ⟨t, ht, hn⟩ := vl_core (q := r - 1) (D := 1) (x := fmod x 4607182418800017408) ⟨_, _, _, hd⟩ (by decide) (by
      rw [← hsub, hv', Rat.one_mul, Rat.one_mul, Rat.one_mul, Rat.intCast_natCast, ← Rat.intCast_natCast, ← Rat.intCast_natCast ((p - q) * B), ← Rat.intCast_natCast U0, ← Rat.intCast_sub]
      refine Rat.intCast_le_intCast.mpr ?_
      omega) (by
      rw [← hsub, hv', Rat.one_mul, Rat.one_mul, Rat.one_mul, Rat.intCast_natCast, ← Rat.intCast_natCast, ← Rat.intCast_natCast v, ← Rat.intCast_natCast U0, ← Rat.intCast_sub]
      refine Rat.intCast_le_intCast.mpr ?_
      omega)
    refine ⟨t, ht, hn, ?_⟩
    have h6 := (vl_iq ht 0).1
    rw [Int.zero_mul, hv'] at h6
    have h7 : ¬ t < ((0 : Int) : Rat) := fun q => by have := h6.mpr q; omega
    exact Rat.not_lt.mp h7

/-- what is left by one -/
theorem vl_mod1 {x : UInt64} {r : Rat} (hx : Vl x r) (h1 : -1 < r) (h2 : r < 2) :
    ∃ t, Vl (divmod x 4607182418800017408).2 t ∧ ((0 ≤ r ∧ r < 1 ∧ t = r) ∨ (r < 0 ∧ Nr (r + 1) t) ∨ (1 ≤ r ∧ 0 ≤ t ∧ Nr (r - 1) t)) := by
  have hz : (copysign (zero false) 4607182418800017408) = zero false := by decide +kernel
  have hd : (divmod x 4607182418800017408).2 = if isZero (fmod x 4607182418800017408) then zero false else if lt 4607182418800017408 (zero false) != lt (fmod x 4607182418800017408) (zero false) then add (fmod x 4607182418800017408) 4607182418800017408 else fmod x 4607182418800017408 := by
    unfold divmod
    rw [hz]
    dsimp only
    split
    · rfl
    · split <;> rfl
  have hl1 : lt 4607182418800017408 (zero false) = false := by decide +kernel
  rw [hd, hl1]
  have F := vl_fmod hx
  by_cases c1 : r < 1
  · have f := F.1 ⟨h1, c1⟩
    rw [vl_isZero f, show lt (fmod x 4607182418800017408) (zero false) = decide (r < 0) from vl_ltb f (zero_vl false)]
    by_cases c0 : r = 0
    · rw [decide_eq_true c0, if_pos rfl]
      exact ⟨0, zero_vl _, .inl ⟨by grind, by grind, c0.symm⟩⟩
    · rw [decide_eq_false c0, if_neg (by decide)]
      by_cases c2 : r < 0
      · rw [decide_eq_true c2, if_pos (by decide)]
        obtain ⟨t, ht, hn⟩ := vl_add f vl_10 (by grind) (by grind)
        exact ⟨t, ht, .inr (.inl ⟨c2, hn⟩)⟩
      · rw [decide_eq_false c2, if_neg (by decide)]
        exact ⟨r, f, .inl ⟨by grind, c1, rfl⟩⟩
  · obtain ⟨t, f, hn, h0⟩ := F.2 ⟨by grind, h2⟩
    rw [vl_isZero f, show lt (fmod x 4607182418800017408) (zero false) = decide (t < 0) from vl_ltb f (zero_vl false)]
    rw [show decide (t < 0) = false from decide_eq_false (by grind)]
    by_cases c0 : t = 0
    · rw [decide_eq_true c0, if_pos rfl]
      exact ⟨0, zero_vl _, .inr (.inr ⟨by grind, by grind, by rw [← c0]; exact hn⟩)⟩
    · rw [decide_eq_false c0, if_neg (by decide), if_neg (by decide)]
      exact ⟨t, f, .inr (.inr ⟨by grind, h0, hn⟩)⟩
end Mine
end

section
set_option Elab.async false
set_option linter.unusedVariables false
namespace Mine
open PySem PySem.Float64

theorem vl_div_zero {x y : UInt64} {s : Rat} (hx : Vl x 0) (hy : Vl y s) (h0 : s ≠ 0) : Vl (div x y) 0 := by
  obtain ⟨a, m, e, dx⟩ := hx.fin
  obtain ⟨b, k, f, dy⟩ := hy.fin
  have R := div_right dx dy (vl_ne hy dy h0)
  have h1 := hx.eq
  rw [Rat.zero_mul] at h1
  have h2 : val x = 0 := Rat.intCast_eq_zero_iff.mp h1
  have hy0 : val y ≠ 0 := by
    intro h
    have := hy.eq
    have hu := Uq_pos
    rw [h] at this
    rcases Rat.mul_eq_zero.mp (this.symm.trans rfl : s * (U : Rat) = 0) with h | h <;> grind
  have hD : 0 < (val y).natAbs := by omega
  obtain ⟨⟨m', e', hd⟩, v, hv, n1, n2, hx'⟩ := right_near R hD (by rw [h2]; simp)
  have := hx' 0 0 (by decide) (by rw [h2]; simp)
  refine ⟨⟨_, _, _, hd⟩, ?_⟩
  rw [hv, this]
  unfold sgn
  cases (a != b) <;> simp

theorem vl_lit {k : Nat} (h : k ≤ 64) : Vl (lit k) ((k : Rat) / 32) := vl_frac (by omega)
theorem q32 (x y : Nat) : ((x : Rat) / 32 < (y : Rat) / 32 ↔ x < y) ∧ ((x : Rat) / 32 = (y : Rat) / 32 ↔ x = y) := by
  constructor
  · rw [← Rat.natCast_lt_natCast]
    constructor <;> intro h <;> grind
  · rw [← Rat.natCast_inj]
    constructor <;> intro h <;> grind
theorem lit_lt {x y : Nat} (hx : x ≤ 64) (hy : y ≤ 64) : (cmp (lit x) (lit y) == some .lt) = decide (x < y) := by
  rw [vl_ltb (vl_lit hx) (vl_lit hy), decide_eq_decide]; exact (q32 x y).1
theorem lit_eq {x y : Nat} (hx : x ≤ 64) (hy : y ≤ 64) : (cmp (lit x) (lit y) == some .eq) = decide (x = y) := by
  rw [vl_eqb (vl_lit hx) (vl_lit hy), decide_eq_decide]; exact (q32 x y).2
theorem lit_max {x y z m : Nat} (hx : x ≤ m) (hy : y ≤ m) (hz : z ≤ m) (h : x = m ∨ y = m ∨ z = m) (hm : m ≤ 64) : fmax3 (lit x) (lit y) (lit z) = lit m := by
  unfold fmax3
  dsimp only
  rw [lit_lt (by omega) (by omega)]
  by_cases h1 : x < y
  · rw [decide_eq_true h1, if_pos rfl, lit_lt (by omega) (by omega)]
    by_cases h2 : y < z
    · rw [decide_eq_true h2, if_pos rfl]; congr 1; omega
    · rw [decide_eq_false h2, if_neg (by decide)]; congr 1; omega
  · rw [decide_eq_false h1, if_neg Bool.false_ne_true, lit_lt (by omega) (by omega)]
    by_cases h2 : x < z
    · rw [decide_eq_true h2, if_pos rfl]; congr 1; omega
    · rw [decide_eq_false h2, if_neg (by decide)]; congr 1; omega
theorem lit_min {x y z m : Nat} (hx : m ≤ x) (hy : m ≤ y) (hz : m ≤ z) (h : x = m ∨ y = m ∨ z = m) (bx : x ≤ 64) (bY : y ≤ 64) (bz : z ≤ 64) : fmin3 (lit x) (lit y) (lit z) = lit m := by
  unfold fmin3
  dsimp only
  rw [lit_lt (by omega) (by omega)]
  by_cases h1 : y < x
  · rw [decide_eq_true h1, if_pos rfl, lit_lt (by omega) (by omega)]
    by_cases h2 : z < y
    · rw [decide_eq_true h2, if_pos rfl]; congr 1; omega
    · rw [decide_eq_false h2, if_neg (by decide)]; congr 1; omega
  · rw [decide_eq_false h1, if_neg Bool.false_ne_true, lit_lt (by omega) (by omega)]
    by_cases h2 : z < x
    · rw [decide_eq_true h2, if_pos rfl]; congr 1; omega
    · rw [decide_eq_false h2, if_neg (by decide)]; congr 1; omega

theorem quot {N M : Rat} (hM : 0 < M) (h0 : 0 ≤ N) (h1 : N ≤ M) : ∃ q, q * M = N ∧ 0 ≤ q ∧ q ≤ 1 := by
  have e : N / M * M = N := Rat.div_mul_cancel (by grind)
  refine ⟨N / M, e, ?_, ?_⟩
  · refine Rat.le_of_mul_le_mul_right (c := M) ?_ hM
    rw [e, Rat.zero_mul]; exact h0
  · refine Rat.le_of_mul_le_mul_right (c := M) ?_ hM
    rw [e, Rat.one_mul]; exact h1
theorem nmul {K x t : Rat} {B : Rat} (h0 : 0 ≤ K) (h1 : K ≤ B) (h : Nr x t) : K * x - B * eps ≤ K * t ∧ K * t ≤ K * x + B * eps := by
  have e1 := Rat.mul_le_mul_of_nonneg_left h.1 h0
  have e2 := Rat.mul_le_mul_of_nonneg_left h.2 h0
  have e3 := Rat.mul_le_mul_of_nonneg_right (c := eps) h1 (by grind)
  constructor <;> grind

/-- the figures of a colour: parts a, b, c of which one is 0 and the greatest is m, on the white w -/
structure Col (a b c m w : Nat) : Prop where
  z : a = 0 ∨ b = 0 ∨ c = 0
  la : a ≤ m
  lb : b ≤ m
  lc : c ≤ m
  mx : a = m ∨ b = m ∨ c = m
  hm : m ≤ 16
  hw : w ≤ 16

theorem Col.max {a b c m w : Nat} (C : Col a b c m w) : fmax3 (lit (a + w)) (lit (b + w)) (lit (c + w)) = lit (m + w) := by
  have := C.la; have := C.lb; have := C.lc; have := C.hm; have := C.hw; have := C.mx
  exact lit_max (by omega) (by omega) (by omega) (by omega) (by omega)
theorem Col.min {a b c m w : Nat} (C : Col a b c m w) : fmin3 (lit (a + w)) (lit (b + w)) (lit (c + w)) = lit w := by
  have := C.la; have := C.lb; have := C.lc; have := C.hm; have := C.hw; have := C.z
  exact lit_min (by omega) (by omega) (by omega) (by omega) (by omega) (by omega) (by omega)
theorem Col.range {a b c m w : Nat} (C : Col a b c m w) : Vl (sub (lit (m + w)) (lit w)) ((m : Rat) / 32) := by
  have := C.hm; have := C.hw
  have h := vl_sub_exact (vl_lit (k := m + w) (by omega)) (vl_lit (k := w) (by omega)) (j := ((2 * m : Nat) : Int)) (by
    rw [Rat.intCast_natCast, Rat.natCast_mul, Rat.natCast_add]
    have e : ((2 : Nat) : Rat) = 2 := rfl
    rw [e]; grind) (by omega)
  rw [Rat.natCast_add] at h
  have e : ((m : Rat) + (w : Rat)) / 32 - (w : Rat) / 32 = (m : Rat) / 32 := by grind
  rwa [e] at h
theorem share {x m w : Nat} (hx : x ≤ m) (h1 : 1 ≤ m) (hm : m ≤ 16) (hw : w ≤ 16) (hr : Vl (sub (lit (m + w)) (lit w)) ((m : Rat) / 32)) :
    ∃ q t, q * (m : Rat) = (m : Rat) - (x : Rat) ∧ 0 ≤ q ∧ q ≤ 1 ∧ Nr q t ∧ Vl (div (sub (lit (m + w)) (lit (x + w))) (sub (lit (m + w)) (lit w))) t := by
  have hM : (0 : Rat) < (m : Rat) := Rat.natCast_pos.mpr (by omega)
  have hX : (0 : Rat) ≤ (x : Rat) := Rat.natCast_nonneg
  have hXM : (x : Rat) ≤ (m : Rat) := Rat.natCast_le_natCast.mpr hx
  obtain ⟨q, hq, q0, q1⟩ := quot (N := (m : Rat) - (x : Rat)) hM (by grind) (by grind)
  have h := vl_sub_exact (vl_lit (k := m + w) (by omega)) (vl_lit (k := x + w) (by omega)) (j := ((2 * (m - x) : Nat) : Int)) (by
    rw [Rat.intCast_natCast, Rat.natCast_mul, Rat.natCast_add, Rat.natCast_add]
    have e : ((2 : Nat) : Rat) = 2 := rfl
    have e2 : (m : Rat) = ((m - x : Nat) : Rat) + (x : Rat) := by rw [← Rat.natCast_add]; congr 1; omega
    rw [e]; grind) (by omega)
  rw [Rat.natCast_add, Rat.natCast_add] at h
  have e : ((m : Rat) + (w : Rat)) / 32 - ((x : Rat) + (w : Rat)) / 32 = ((m : Rat) - (x : Rat)) / 32 := by grind
  rw [e] at h
  obtain ⟨t, ht, hn⟩ := vl_div (q := q) h hr (by grind) (by grind) (by grind) (by grind)
  exact ⟨q, t, hq, q0, q1, hn, ht⟩
end Mine
end

section
set_option Elab.async false
set_option linter.unusedVariables false
namespace Mine
open PySem PySem.Float64

/-- where on the wheel, in sixths times m -/
inductive Where (a b c m : Nat) (Y : Rat) : Prop
  | ry : a = m → c ≤ b → Y = (b : Rat) - (c : Rat) → Where a b c m Y
  | rm : a = m → b < c → Y = 6 * (m : Rat) + (b : Rat) - (c : Rat) → Where a b c m Y
  | g : a < m → b = m → Y = 2 * (m : Rat) + (c : Rat) - (a : Rat) → Where a b c m Y
  | b : a < m → b < m → c = m → Y = 4 * (m : Rat) + (a : Rat) - (b : Rat) → Where a b c m Y

theorem hue_end {h : UInt64} {t : Rat} {m : Nat} (h1 : 1 ≤ m) (hm : m ≤ 16) (ht : Vl h t) {Z : Rat} (b1 : Z - 1 / 1000000 ≤ (m : Rat) * t) (b2 : (m : Rat) * t ≤ Z + 1 / 1000000)
    (k : (1 ≤ Z ∧ Z ≤ 5 * (m : Rat)) ∨ (Z ≤ -1 ∧ -(m : Rat) ≤ Z) ∨ (Z = 0 ∧ t = 0)) :
    ∃ s, Vl (divmod (div h c60) c10).2 s ∧ 0 ≤ s ∧ s < 1 ∧ (if Z < 0 then 6 * (m : Rat) + Z else Z) - 1 / 10000 ≤ 6 * ((m : Rat) * s) ∧ 6 * ((m : Rat) * s) ≤ (if Z < 0 then 6 * (m : Rat) + Z else Z) + 1 / 10000 := by
  have hM : (1 : Rat) ≤ (m : Rat) := Rat.natCast_le_natCast.mpr h1
  have hM16 : (m : Rat) ≤ 16 := Rat.natCast_le_natCast.mpr hm
  rcases k with ⟨k1, k2⟩ | ⟨k1, k2⟩ | ⟨k1, k2⟩
  · -- above
    have t0 : 0 < t := by
      refine (Rat.mul_lt_mul_left (c := (m : Rat)) (by grind)).mp ?_
      grind
    have t5 : t < 51 / 10 := by
      refine (Rat.mul_lt_mul_left (c := (m : Rat)) (by grind)).mp ?_
      grind
    obtain ⟨u, hu, hn⟩ := vl_div (q := t / 6) ht vl_60 (by grind) (by grind) (by grind) (by grind)
    have un := nmul (K := (m : Rat)) (B := 16) (by grind) hM16 hn
    have u0 : 0 ≤ u := by
      refine Rat.le_of_mul_le_mul_left (c := (m : Rat)) ?_ (by grind)
      grind
    have u1 : u < 1 := by
      refine (Rat.mul_lt_mul_left (c := (m : Rat)) (by grind)).mp ?_
      grind
    obtain ⟨s, hs, hh⟩ := vl_mod1 hu (by grind) (by grind)
    refine ⟨s, hs, ?_⟩
    rcases hh with ⟨_, _, rfl⟩ | ⟨h, _⟩ | ⟨h, _⟩
    · refine ⟨u0, u1, ?_, ?_⟩
      · rw [if_neg (by grind)]; grind
      · rw [if_neg (by grind)]; grind
    · grind
    · grind
  · have t0 : t < 0 := by
      refine (Rat.mul_lt_mul_left (c := (m : Rat)) (by grind)).mp ?_
      grind
    have t5 : -(11 / 10) < t := by
      refine (Rat.mul_lt_mul_left (c := (m : Rat)) (by grind)).mp ?_
      grind
    obtain ⟨u, hu, hn⟩ := vl_div (q := t / 6) ht vl_60 (by grind) (by grind) (by grind) (by grind)
    have un := nmul (K := (m : Rat)) (B := 16) (by grind) hM16 hn
    have u0 : u < 0 := by
      refine (Rat.mul_lt_mul_left (c := (m : Rat)) (by grind)).mp ?_
      grind
    have u1 : -1 / 2 < u := by grind
    obtain ⟨s, hs, hh⟩ := vl_mod1 hu (by grind) (by grind)
    refine ⟨s, hs, ?_⟩
    rcases hh with ⟨h, _⟩ | ⟨_, hn2⟩ | ⟨h, _⟩
    · grind
    · have sn := nmul (K := (m : Rat)) (B := 16) (by grind) hM16 hn2
      refine ⟨by grind, ?_, ?_, ?_⟩
      · refine (Rat.mul_lt_mul_left (c := (m : Rat)) (by grind)).mp ?_
        grind
      · rw [if_pos (by grind)]; grind
      · rw [if_pos (by grind)]; grind
    · grind
  · rw [k2] at ht
    have hu := vl_div_zero ht vl_60 (by grind)
    obtain ⟨s, hs, hh⟩ := vl_mod1 hu (by grind) (by grind)
    refine ⟨s, hs, ?_⟩
    rcases hh with ⟨_, _, rfl⟩ | ⟨h, _⟩ | ⟨h, _⟩
    · rw [if_neg (by grind), k1]
      refine ⟨by grind, by grind, by grind, by grind⟩
    · grind
    · grind

theorem hue_vl {a b c m w : Nat} (C : Col a b c m w) (h1 : 1 ≤ m) :
    ∃ t Y, Vl (hueF (lit (a + w)) (lit (b + w)) (lit (c + w))) t ∧ 0 ≤ t ∧ t < 1 ∧ Y - 1 / 10000 ≤ 6 * ((m : Rat) * t) ∧ 6 * ((m : Rat) * t) ≤ Y + 1 / 10000 ∧ Where a b c m Y := by
  have hm := C.hm
  have hw := C.hw
  have hr := C.range
  have la := C.la
  have lb := C.lb
  have lc := C.lc
  obtain ⟨qa, ta, ea, a0, a1, na, va⟩ := share C.la h1 hm hw hr
  obtain ⟨qb, tb, eb, b0, b1, nb, vb⟩ := share C.lb h1 hm hw hr
  obtain ⟨qc, tc, ec, c0, c1, nc, vc⟩ := share C.lc h1 hm hw hr
  unfold hueF
  rw [C.max, C.min]
  dsimp only
  rw [lit_eq (by omega) (by omega), lit_eq (by omega) (by omega)]
  have hM : (1 : Rat) ≤ (m : Rat) := Rat.natCast_le_natCast.mpr h1
  have hM16 : (m : Rat) ≤ 16 := Rat.natCast_le_natCast.mpr hm
  have A0 : (0 : Rat) ≤ (a : Rat) := Rat.natCast_nonneg
  have B0 : (0 : Rat) ≤ (b : Rat) := Rat.natCast_nonneg
  have C0 : (0 : Rat) ≤ (c : Rat) := Rat.natCast_nonneg
  have AM : (a : Rat) ≤ (m : Rat) := Rat.natCast_le_natCast.mpr la
  have BM : (b : Rat) ≤ (m : Rat) := Rat.natCast_le_natCast.mpr lb
  have CM : (c : Rat) ≤ (m : Rat) := Rat.natCast_le_natCast.mpr lc
  have ma := nmul (K := (m : Rat)) (B := 16) (by grind) hM16 na
  have mb := nmul (K := (m : Rat)) (B := 16) (by grind) hM16 nb
  have mc := nmul (K := (m : Rat)) (B := 16) (by grind) hM16 nc
  by_cases ka : a = m
  · rw [decide_eq_true (by omega), if_pos rfl]
    by_cases kbc : b = c
    · have := vl_sub_self vc
      rw [← kbc] at this ⊢
      obtain ⟨s, hs, s0, s1, s2, s3⟩ := hue_end (Z := 0) h1 hm this (by grind) (by grind) (.inr (.inr ⟨rfl, rfl⟩))
      rw [if_neg (by grind)] at s2 s3
      exact ⟨s, 0, hs, s0, s1, s2, s3, .ry ka (by omega) (by rw [kbc]; grind)⟩
    · obtain ⟨u, hu, hn⟩ := vl_sub vc vb (by grind) (by grind)
      have mu := nmul (K := (m : Rat)) (B := 16) (by grind) hM16 hn
      by_cases kl : c < b
      · have q1 : (c : Rat) + 1 ≤ (b : Rat) := by
          have := Rat.natCast_le_natCast.mpr (show c + 1 ≤ b by omega)
          rw [Rat.natCast_add] at this; exact this
        obtain ⟨s, hs, s0, s1, s2, s3⟩ := hue_end (Z := (b : Rat) - (c : Rat)) h1 hm hu (by grind) (by grind) (.inl ⟨by grind, by grind⟩)
        rw [if_neg (by grind)] at s2 s3
        exact ⟨s, _, hs, s0, s1, s2, s3, .ry ka (by omega) rfl⟩
      · have q1 : (b : Rat) + 1 ≤ (c : Rat) := by
          have := Rat.natCast_le_natCast.mpr (show b + 1 ≤ c by omega)
          rw [Rat.natCast_add] at this; exact this
        obtain ⟨s, hs, s0, s1, s2, s3⟩ := hue_end (Z := (b : Rat) - (c : Rat)) h1 hm hu (by grind) (by grind) (.inr (.inl ⟨by grind, by grind⟩))
        rw [if_pos (by grind)] at s2 s3
        exact ⟨s, _, hs, s0, s1, s2, s3, .rm ka (by omega) (by grind)⟩
  · rw [decide_eq_false (by omega), if_neg Bool.false_ne_true]
    have qa1 : (a : Rat) + 1 ≤ (m : Rat) := by
      have := Rat.natCast_le_natCast.mpr (show a + 1 ≤ m by omega)
      rw [Rat.natCast_add] at this; exact this
    by_cases kb : b = m
    · rw [decide_eq_true (by omega), if_pos rfl]
      have BM2 : (b : Rat) = (m : Rat) := by rw [kb]
      obtain ⟨u, hu, hn⟩ := vl_add vl_20 va (by grind) (by grind)
      have mu := nmul (K := (m : Rat)) (B := 16) (by grind) hM16 hn
      obtain ⟨v, hv, hn2⟩ := vl_sub hu vc (by grind) (by grind)
      have mv := nmul (K := (m : Rat)) (B := 16) (by grind) hM16 hn2
      obtain ⟨s, hs, s0, s1, s2, s3⟩ := hue_end (Z := 2 * (m : Rat) + (c : Rat) - (a : Rat)) h1 hm hv (by grind) (by grind) (.inl ⟨by grind, by grind⟩)
      rw [if_neg (by grind)] at s2 s3
      exact ⟨s, _, hs, s0, s1, s2, s3, .g (by omega) kb rfl⟩
    · rw [decide_eq_false (by omega), if_neg Bool.false_ne_true]
      have kc : c = m := by have := C.mx; omega
      have CM2 : (c : Rat) = (m : Rat) := by rw [kc]
      obtain ⟨u, hu, hn⟩ := vl_add vl_40 vb (by grind) (by grind)
      have mu := nmul (K := (m : Rat)) (B := 16) (by grind) hM16 hn
      obtain ⟨v, hv, hn2⟩ := vl_sub hu va (by grind) (by grind)
      have mv := nmul (K := (m : Rat)) (B := 16) (by grind) hM16 hn2
      obtain ⟨s, hs, s0, s1, s2, s3⟩ := hue_end (Z := 4 * (m : Rat) + (a : Rat) - (b : Rat)) h1 hm hv (by grind) (by grind) (.inl ⟨by grind, by grind⟩)
      rw [if_neg (by grind)] at s2 s3
      exact ⟨s, _, hs, s0, s1, s2, s3, .b (by omega) (by omega) kc rfl⟩
end Mine
end

section
set_option Elab.async false
set_option linter.unusedVariables false
namespace Mine
open PySem PySem.Float64

theorem nmulB {K x t B e : Rat} (h0 : -B ≤ K) (h1 : K ≤ B) (h : x - e ≤ t ∧ t ≤ x + e) : K * x - B * e ≤ K * t ∧ K * t ≤ K * x + B * e := by
  have e1 := Rat.mul_nonneg (show 0 ≤ B - K by grind) (show 0 ≤ e + (t - x) by grind)
  have e2 := Rat.mul_nonneg (show 0 ≤ B + K by grind) (show 0 ≤ e - (t - x) by grind)
  have e3 := Rat.mul_nonneg (show 0 ≤ B + K by grind) (show 0 ≤ e + (t - x) by grind)
  have e4 := Rat.mul_nonneg (show 0 ≤ B - K by grind) (show 0 ≤ e - (t - x) by grind)
  constructor <;> grind

/-- where, in rationals -/
inductive WhereQ (M A B C Y : Rat) : Prop
  | ry : A = M → C = 0 → 0 ≤ B → B ≤ M → Y = B → WhereQ M A B C Y
  | rm : A = M → B = 0 → 1 ≤ C → C ≤ M → Y = 6 * M - C → WhereQ M A B C Y
  | gy : 1 ≤ A → A + 1 ≤ M → B = M → C = 0 → Y = 2 * M - A → WhereQ M A B C Y
  | gc : A = 0 → B = M → 0 ≤ C → C ≤ M → Y = 2 * M + C → WhereQ M A B C Y
  | bc : A = 0 → 0 ≤ B → B + 1 ≤ M → C = M → Y = 4 * M - B → WhereQ M A B C Y
  | bm : 1 ≤ A → A + 1 ≤ M → B = 0 → C = M → Y = 4 * M + A → WhereQ M A B C Y
theorem natq_le {x y : Nat} (h : x ≤ y) : (x : Rat) ≤ (y : Rat) := Rat.natCast_le_natCast.mpr h
theorem natq_lt {x y : Nat} (h : x < y) : (x : Rat) + 1 ≤ (y : Rat) := by
  have := Rat.natCast_le_natCast.mpr (show x + 1 ≤ y by omega)
  rw [Rat.natCast_add] at this; exact this
theorem Where.q {a b c m w : Nat} {Y : Rat} (C : Col a b c m w) (h1 : 1 ≤ m) (W : Where a b c m Y) : WhereQ (m : Rat) (a : Rat) (b : Rat) (c : Rat) Y := by
  have hz := C.z
  have la := C.la
  have lb := C.lb
  have lc := C.lc
  have z0 : ((0 : Nat) : Rat) = 0 := rfl
  have z1 : ((1 : Nat) : Rat) = 1 := rfl
  rcases W with ⟨ha, hcb, rfl⟩ | ⟨ha, hbc, rfl⟩ | ⟨ha, hb, rfl⟩ | ⟨ha, hb, hc, rfl⟩
  · have hc0 : c = 0 := by omega
    subst hc0 ha
    exact .ry rfl z0 Rat.natCast_nonneg (natq_le lb) (by rw [z0]; grind)
  · have hb0 : b = 0 := by omega
    subst hb0 ha
    have := natq_le (x := 1) (y := c) (by omega)
    rw [z1] at this
    exact .rm rfl z0 this (natq_le lc) (by rw [z0]; grind)
  · subst hb
    rcases Nat.eq_zero_or_pos a with h | h
    · subst h
      exact .gc z0 rfl Rat.natCast_nonneg (natq_le lc) (by rw [z0]; grind)
    · have hc0 : c = 0 := by omega
      subst hc0
      have := natq_le (x := 1) (y := a) (by omega)
      rw [z1] at this
      exact .gy this (natq_lt ha) rfl z0 (by rw [z0]; grind)
  · subst hc
    rcases Nat.eq_zero_or_pos a with h | h
    · subst h
      exact .bc z0 Rat.natCast_nonneg (natq_lt hb) rfl (by rw [z0]; grind)
    · have hb0 : b = 0 := by omega
      subst hb0
      have := natq_le (x := 1) (y := a) (by omega)
      rw [z1] at this
      exact .bm this (natq_lt ha) z0 rfl (by rw [z0]; grind)

abbrev Nc (x t : Rat) : Prop := x - 1 / 100 ≤ t ∧ t ≤ x + 1 / 100
abbrev Nk (x t : Rat) : Prop := x - 1 / 1000 ≤ t ∧ t ≤ x + 1 / 1000
/-- the turned colour, out of the pieces, by the piece of the wheel -/
theorem piece {M A B C Y W T q v t p : Rat} (D : WhereQ M A B C Y) (hM : 1 ≤ M) (hT : Nk (Y + M) T) (hp : Nk W p) (hv : v = M + W) {n : Rat} (n1 : M * n ≤ T) (n2 : T < M * n + M) (hq : Nk (M + W - (T - M * n)) q) (ht : Nk (W + (T - M * n)) t) :
    (n = 0 → Nc (M - B + W) v ∧ Nc (M - C + W) t ∧ Nc (M - A + W) p) ∧
    (n = 1 → Nc (M - B + W) q ∧ Nc (M - C + W) v ∧ Nc (M - A + W) p) ∧
    (n = 2 → Nc (M - B + W) p ∧ Nc (M - C + W) v ∧ Nc (M - A + W) t) ∧
    (n = 3 → Nc (M - B + W) p ∧ Nc (M - C + W) q ∧ Nc (M - A + W) v) ∧
    (n = 4 → Nc (M - B + W) t ∧ Nc (M - C + W) p ∧ Nc (M - A + W) v) ∧
    (n = 5 → Nc (M - B + W) v ∧ Nc (M - C + W) p ∧ Nc (M - A + W) q) ∧
    (n = 6 → Nc (M - B + W) v ∧ Nc (M - C + W) t ∧ Nc (M - A + W) p) := by
  refine ⟨?_, ?_, ?_, ?_, ?_, ?_, ?_⟩ <;> (intro hn; rw [hn] at n1 n2 hq ht; cases D <;> (refine ⟨?_, ?_, ?_⟩ <;> grind))
end Mine
end

section
set_option Elab.async false
set_option linter.unusedVariables false
namespace Mine
open PySem PySem.Float64 PySem.W PyProof.Rows

theorem fin_int {u : UInt64} {r : Rat} {n : Nat} (hu : Vl u r) (hn : n ≤ 60) (h : Nc (n : Rat) (32 * r)) : isFinite (rnd u) = true ∧ inR u = (n : Int) := by
  have hN : (n : Rat) ≤ ((60 : Nat) : Rat) := natq_le hn
  have e60 : ((60 : Nat) : Rat) = 60 := rfl
  have hN0 : (0 : Rat) ≤ (n : Rat) := Rat.natCast_nonneg
  obtain ⟨s, hs, ns⟩ := vl_mul vl_32 hu (by grind) (by grind)
  obtain ⟨t, ht, nt⟩ := vl_add hs vl_05 (by grind) (by grind)
  refine ⟨vl_finite ht, ?_⟩
  obtain ⟨k, hk, k1, k2⟩ := vl_trunc ht (by grind)
  have : k = n := by
    have h1 : (k : Rat) < ((n + 1 : Nat) : Rat) := by rw [Rat.natCast_add]; have e1 : ((1 : Nat) : Rat) = 1 := rfl; grind
    have h2 : (n : Rat) < ((k + 1 : Nat) : Rat) := by rw [Rat.natCast_add]; have e1 : ((1 : Nat) : Rat) = 1 := rfl; grind
    have := Rat.natCast_lt_natCast.mp h1
    have := Rat.natCast_lt_natCast.mp h2
    omega
  subst this
  exact hk
theorem natq_turn {m x w : Nat} (hx : x ≤ m) : ((m - x + w : Nat) : Rat) = (m : Rat) - (x : Rat) + (w : Rat) := by
  rw [Rat.natCast_add]
  have : (m : Rat) = ((m - x : Nat) : Rat) + (x : Rat) := by rw [← Rat.natCast_add]; congr 1; omega
  grind

theorem vl_sixth : Vl sixth (6004799503160661 / 36028797018963968) := by
  have : sixth = 4595172819793696085 := by decide +kernel
  rw [this]; exact vl_16

theorem big8 {n : Nat} (h : n ≤ 8) : ((n : Int)).natAbs < 2 ^ 1023 := by
  rw [Int.natAbs_natCast]
  exact Nat.lt_of_le_of_lt h (Nat.lt_of_lt_of_le (show 8 < 2 ^ 4 by decide) (Nat.pow_le_pow_right (by decide) (by decide)))

/-- the six pieces -/
theorem rgbF_pick {h s v : UInt64} {n : Nat} (hi : i6 h = (n : Int)) (hn : n ≤ 6) :
    let f := Float64.sub (f6 h) (Float64.ofInt n)
    let p := Float64.mul v (Float64.sub c10 s)
    let q := Float64.mul v (Float64.sub c10 (Float64.mul s f))
    let t := Float64.mul v (Float64.sub c10 (Float64.mul s (Float64.sub c10 f)))
    (n = 0 ∧ rgbF h s v = [v, t, p]) ∨ (n = 1 ∧ rgbF h s v = [q, v, p]) ∨ (n = 2 ∧ rgbF h s v = [p, v, t]) ∨ (n = 3 ∧ rgbF h s v = [p, q, v]) ∨ (n = 4 ∧ rgbF h s v = [t, p, v]) ∨ (n = 5 ∧ rgbF h s v = [v, p, q]) ∨ (n = 6 ∧ rgbF h s v = [v, t, p]) := by
  intro f p q t
  have : n = 0 ∨ n = 1 ∨ n = 2 ∨ n = 3 ∨ n = 4 ∨ n = 5 ∨ n = 6 := by omega
  unfold rgbF
  rw [hi]
  rcases this with rfl | rfl | rfl | rfl | rfl | rfl | rfl
  · exact .inl ⟨rfl, if_pos rfl⟩
  · exact .inr (.inl ⟨rfl, rfl⟩)
  · exact .inr (.inr (.inl ⟨rfl, rfl⟩))
  · exact .inr (.inr (.inr (.inl ⟨rfl, rfl⟩)))
  · exact .inr (.inr (.inr (.inr (.inl ⟨rfl, rfl⟩))))
  · exact .inr (.inr (.inr (.inr (.inr (.inl ⟨rfl, rfl⟩)))))
  · exact .inr (.inr (.inr (.inr (.inr (.inr ⟨rfl, if_pos rfl⟩)))))

theorem hsv_pieces {a b c m w : Nat} (C : Col a b c m w) (h1 : 1 ≤ m) {H S : UInt64} {t Y ts : Rat} (hH : Vl H t) (t0 : 0 ≤ t) (t1 : t < 1) (y1 : Y - 1 / 10000 ≤ 6 * ((m : Rat) * t)) (y2 : 6 * ((m : Rat) * t) ≤ Y + 1 / 10000) (W : Where a b c m Y)
    (hS : Vl S ts) {q : Rat} (eq : q * ((m : Rat) + (w : Rat)) = (m : Rat)) (q0 : 0 ≤ q) (q1 : q ≤ 1) (nq : Nr q ts) :
    isFinite (f6 (add H sixth)) = true ∧ (i6 (add H sixth)).natAbs < 2 ^ 1023 ∧ ∃ u0 u1 u2 r0 r1 r2, rgbF (add H sixth) S (lit (m + w)) = [u0, u1, u2] ∧ Vl u0 r0 ∧ Vl u1 r1 ∧ Vl u2 r2 ∧
      Nc ((m - b + w : Nat) : Rat) (32 * r0) ∧ Nc ((m - c + w : Nat) : Rat) (32 * r1) ∧ Nc ((m - a + w : Nat) : Rat) (32 * r2) := by
  have hm := C.hm
  have hw := C.hw
  rw [natq_turn C.la, natq_turn C.lb, natq_turn C.lc]
  have D := W.q C h1
  have hM : (1 : Rat) ≤ (m : Rat) := natq_le h1
  have hM16 : (m : Rat) ≤ 16 := natq_le hm
  have hW0 : (0 : Rat) ≤ (w : Rat) := Rat.natCast_nonneg
  have hW16 : (w : Rat) ≤ 16 := natq_le hw
  have hV := vl_lit (k := m + w) (by omega)
  rw [Rat.natCast_add] at hV
  obtain ⟨G, hG⟩ : ∃ G, G = (m : Rat) + (w : Rat) := ⟨_, rfl⟩
  rw [← hG] at hV eq
  generalize (m : Rat) = M at *
  generalize (a : Rat) = A at *
  generalize (b : Rat) = B at *
  generalize (c : Rat) = Cq at *
  generalize (w : Rat) = Wq at *
  obtain ⟨k1, hk1, n1⟩ := vl_add hH vl_sixth (by grind) (by grind)
  obtain ⟨T, hT, n2⟩ := vl_mul hk1 vl_60 (by grind) (by grind)
  have T0 : 0 ≤ T := by grind
  obtain ⟨n, hi, l1, l2⟩ := vl_trunc hT T0
  have m1 := nmul (K := M) (B := 16) (by grind) hM16 n1
  have m2 := nmul (K := M) (B := 16) (by grind) hM16 n2
  have hY : Y ≤ 6 * M - 1 ∧ 0 ≤ Y := by cases D <;> (constructor <;> grind)
  have T7 : T < 7 := by
    refine (Rat.mul_lt_mul_left (c := M) (by grind)).mp ?_
    grind
  have hn7 : n < 7 := by
    have : (n : Rat) < ((7 : Nat) : Rat) := by have e7 : ((7 : Nat) : Rat) = 7 := rfl; grind
    exact Rat.natCast_lt_natCast.mp this
  have hi' : i6 (add H sixth) = (n : Int) := hi
  refine ⟨vl_finite hT, by rw [hi']; exact big8 (by omega), ?_⟩
  have hN := ofInt_small (n := n) (by omega)
  obtain ⟨F, hF, n3⟩ := vl_sub hT hN (by grind) (by grind)
  have F0 : -2 ≤ F := by grind
  have F2 : F ≤ 2 := by grind
  have m3 := nmul (K := M) (B := 16) (by grind) hM16 n3
  have gS := nmul (K := G) (B := 32) (by grind) (by grind) nq
  -- p
  obtain ⟨d, hd, nd⟩ := vl_sub vl_10 hS (by grind) (by grind)
  have gd := nmul (K := G) (B := 32) (by grind) (by grind) nd
  have bd : -1 ≤ d ∧ d ≤ 2 := by constructor <;> grind
  have bGd := nmulB (K := G) (x := 0) (t := d) (B := 32) (e := 2) (by grind) (by grind) (by constructor <;> grind)
  obtain ⟨tp, hp, np⟩ := vl_mul hV hd (by grind) (by grind)
  -- q
  have bSF := nmulB (K := ts) (x := 0) (t := F) (B := 2) (e := 2) (by grind) (by grind) (by constructor <;> grind)
  obtain ⟨e1, he1, ne1⟩ := vl_mul hS hF (by grind) (by grind)
  obtain ⟨e2, he2, ne2⟩ := vl_sub vl_10 he1 (by grind) (by grind)
  have ge1 := nmul (K := G) (B := 32) (by grind) (by grind) ne1
  have ge2 := nmul (K := G) (B := 32) (by grind) (by grind) ne2
  have gSF := nmulB (K := F) (x := M) (t := G * ts) (B := 2) (e := 1 / 1000000) (by grind) (by grind) (by constructor <;> grind)
  have bGe2 := nmulB (K := G) (x := 0) (t := e2) (B := 32) (e := 6) (by grind) (by grind) (by constructor <;> grind)
  obtain ⟨tq, hq, nq'⟩ := vl_mul hV he2 (by grind) (by grind)
  -- t
  obtain ⟨F', hF', nF'⟩ := vl_sub vl_10 hF (by grind) (by grind)
  have mF' := nmul (K := M) (B := 16) (by grind) hM16 nF'
  have bF' : -2 ≤ F' ∧ F' ≤ 2 := by constructor <;> grind
  have bSF' := nmulB (K := ts) (x := 0) (t := F') (B := 2) (e := 2) (by grind) (by grind) (by constructor <;> grind)
  obtain ⟨e3, he3, ne3⟩ := vl_mul hS hF' (by grind) (by grind)
  obtain ⟨e4, he4, ne4⟩ := vl_sub vl_10 he3 (by grind) (by grind)
  have ge3 := nmul (K := G) (B := 32) (by grind) (by grind) ne3
  have ge4 := nmul (K := G) (B := 32) (by grind) (by grind) ne4
  have gSF' := nmulB (K := F') (x := M) (t := G * ts) (B := 2) (e := 1 / 1000000) (by grind) (by grind) (by constructor <;> grind)
  have bGe4 := nmulB (K := G) (x := 0) (t := e4) (B := 32) (e := 6) (by grind) (by grind) (by constructor <;> grind)
  obtain ⟨tt, htt, nt'⟩ := vl_mul hV he4 (by grind) (by grind)
  have P := piece (W := Wq) (T := M * T) (q := 32 * tq) (v := 32 * (G / 32)) (t := 32 * tt) (p := 32 * tp) (n := (n : Rat)) D hM (by constructor <;> grind) (by constructor <;> grind) (by grind)
    (Rat.mul_le_mul_of_nonneg_left l1 (by grind)) (by have := Rat.mul_lt_mul_of_pos_left l2 (show 0 < M by grind); grind) (by constructor <;> grind) (by constructor <;> grind)
  obtain ⟨p0, p1, p2, p3, p4, p5, p6⟩ := P
  rcases rgbF_pick (s := S) (v := lit (m + w)) hi' (by omega) with ⟨rfl, e⟩ | ⟨rfl, e⟩ | ⟨rfl, e⟩ | ⟨rfl, e⟩ | ⟨rfl, e⟩ | ⟨rfl, e⟩ | ⟨rfl, e⟩
  · obtain ⟨x0, x1, x2⟩ := p0 rfl
    exact ⟨_, _, _, _, _, _, e, hV, htt, hp, x0, x1, x2⟩
  · obtain ⟨x0, x1, x2⟩ := p1 rfl
    exact ⟨_, _, _, _, _, _, e, hq, hV, hp, x0, x1, x2⟩
  · obtain ⟨x0, x1, x2⟩ := p2 rfl
    exact ⟨_, _, _, _, _, _, e, hp, hV, htt, x0, x1, x2⟩
  · obtain ⟨x0, x1, x2⟩ := p3 rfl
    exact ⟨_, _, _, _, _, _, e, hp, hq, hV, x0, x1, x2⟩
  · obtain ⟨x0, x1, x2⟩ := p4 rfl
    exact ⟨_, _, _, _, _, _, e, htt, hp, hV, x0, x1, x2⟩
  · obtain ⟨x0, x1, x2⟩ := p5 rfl
    exact ⟨_, _, _, _, _, _, e, hV, hp, hq, x0, x1, x2⟩
  · obtain ⟨x0, x1, x2⟩ := p6 rfl
    exact ⟨_, _, _, _, _, _, e, hV, htt, hp, x0, x1, x2⟩
end Mine
end

section
set_option Elab.async false
set_option linter.unusedVariables false
namespace Mine
open PySem PySem.Float64 PySem.W PyProof.Rows

theorem vl_zero0 : Vl 0 0 := by
  have := zero_vl false
  rwa [show zero false = 0 by decide +kernel] at this

theorem turn_of {u0 u1 u2 : UInt64} {r0 r1 r2 : Rat} {n0 n1 n2 : Nat} (v0 : Vl u0 r0) (v1 : Vl u1 r1) (v2 : Vl u2 r2) (h0 : Nc (n0 : Rat) (32 * r0)) (h1 : Nc (n1 : Rat) (32 * r1)) (h2 : Nc (n2 : Rat) (32 * r2)) (b0 : n0 ≤ 60) (b1 : n1 ≤ 60) (b2 : n2 ≤ 60) {H : UInt64} {t : Rat} (hH : Vl H t) (t0 : 0 ≤ t) (t1 : t < 1) :
    Float64.isFinite (rnd u0) = true ∧ Float64.isFinite (rnd u1) = true ∧ Float64.isFinite (rnd u2) = true ∧ inR u0 = (n0 : Int) ∧ inR u1 = (n1 : Int) ∧ inR u2 = (n2 : Int) ∧
    (Float64.cmpInt H 0 == some .lt) = false ∧ (Float64.cmpInt H 1 == some .gt || Float64.cmpInt H 1 == some .eq) = false :=
  ⟨(fin_int v0 b0 h0).1, (fin_int v1 b1 h1).1, (fin_int v2 b2 h2).1, (fin_int v0 b0 h0).2, (fin_int v1 b1 h1).2, (fin_int v2 b2 h2).2, vl_int_ge hH (by exact t0), vl_int_lt hH (by exact t1)⟩

theorem lit_near {w : Nat} (hw : w ≤ 64) : Nc (w : Rat) (32 * ((w : Rat) / 32)) := by constructor <;> grind
theorem lit_ne_zero {k : Nat} (h : 1 ≤ k) (hk : k ≤ 64) : isZero (lit k) = false := by
  rw [vl_isZero (vl_lit hk)]
  have := natq_le h
  have e1 : ((1 : Nat) : Rat) = 1 := rfl
  exact decide_eq_false (by grind)

theorem hsv_turn {a b c m w : Nat} (C : Col a b c m w) : HsvTurn (a + w) (b + w) (c + w) ((m - b + w : Nat) : Int) ((m - c + w : Nat) : Int) ((m - a + w : Nat) : Int) := by
  have hm := C.hm
  have hw := C.hw
  have la := C.la
  have lb := C.lb
  have lc := C.lc
  by_cases h0 : m = 0
  · subst h0
    have he : (cmp (fmin3 (lit (a + w)) (lit (b + w)) (lit (c + w))) (fmax3 (lit (a + w)) (lit (b + w)) (lit (c + w))) == some .eq) = true := by
      rw [C.min, C.max, lit_eq (by omega) (by omega)]; exact decide_eq_true (by omega)
    have hv := vl_lit (k := w) (by omega)
    refine ⟨0, 0, fmax3 (lit (a + w)) (lit (b + w)) (lit (c + w)), lit w, lit w, lit w, fun X => hsv_eq X _ _ _ he, fun X => ?_, ?_⟩
    · rw [C.max, show 0 + w = w by omega]
      exact rgb_eq X (add 0 sixth) 0 (lit w) (by decide +kernel)
    · have ea : 0 - a + w = w := by omega
      have eb : 0 - b + w = w := by omega
      have ec : 0 - c + w = w := by omega
      rw [ea, eb, ec]
      have hn := lit_near (w := w) (by omega)
      exact turn_of hv hv hv hn hn hn (by omega) (by omega) (by omega) vl_zero0 (by grind) (by grind)
  · have h1 : 1 ≤ m := by omega
    obtain ⟨t, Y, hH, t0, t1, y1, y2, W⟩ := hue_vl C h1
    have hM : (1 : Rat) ≤ (m : Rat) := natq_le h1
    have hW0 : (0 : Rat) ≤ (w : Rat) := Rat.natCast_nonneg
    obtain ⟨q, eq, q0, q1⟩ := quot (N := (m : Rat)) (M := (m : Rat) + (w : Rat)) (by grind) (by grind) (by grind)
    have hV := vl_lit (k := m + w) (by omega)
    rw [Rat.natCast_add] at hV
    obtain ⟨ts, hS, nq⟩ := vl_div (q := q) C.range hV (by grind) (by grind) (by grind) (by grind)
    obtain ⟨f1, f2, u0, u1, u2, r0, r1, r2, e, v0, v1, v2, n0, n1, n2⟩ := hsv_pieces C h1 hH t0 t1 y1 y2 W hS eq q0 q1 nq
    have ts0 : 0 < ts := by
      have hM16 : (m : Rat) + (w : Rat) ≤ 32 := by
        have := natq_le hm
        have := natq_le hw
        have e1 : ((16 : Nat) : Rat) = 16 := rfl
        grind
      have := nmul (K := (m : Rat) + (w : Rat)) (B := 32) (by grind) hM16 nq
      refine (Rat.mul_lt_mul_left (c := (m : Rat) + (w : Rat)) (by grind)).mp ?_
      grind
    refine ⟨_, _, fmax3 (lit (a + w)) (lit (b + w)) (lit (c + w)), u0, u1, u2, fun X => hsv_ne X _ _ _ ?_ ?_ ?_, fun X => ?_, ?_⟩
    · rw [C.min, C.max, lit_eq (by omega) (by omega)]; exact decide_eq_false (by omega)
    · rw [C.max]; exact lit_ne_zero (by omega) (by omega)
    · rw [C.max, C.min, vl_isZero C.range]; exact decide_eq_false (by grind)
    · rw [C.max, C.min]
      have := fun prog => rgb_ne (prog := prog) X (add (hueF (lit (a + w)) (lit (b + w)) (lit (c + w))) sixth) (div (Float64.sub (lit (m + w)) (lit w)) (lit (m + w))) (lit (m + w)) (by rw [vl_eqb hS vl_zero0]; exact decide_eq_false (by grind)) f1 f2
      rw [e] at this
      exact this _
    · exact turn_of v0 v1 v2 n0 n1 n2 (by omega) (by omega) (by omega) hH t0 t1
end Mine
end

section
set_option Elab.async false
set_option linter.unusedVariables false
namespace Mine
open PySem PySem.Float64 PySem.W PyProof.Rows

/-- which piece of the trapezium -/
inductive Pc (M W X u : Rat) : Prop
  | a (Z : Rat) : ((0 ≤ X ∧ X ≤ 6 * M ∧ Z = X) ∨ (X ≤ 0 ∧ Nk (X + 6 * M) Z) ∨ (6 * M ≤ X ∧ Nk (X - 6 * M) Z)) → Z ≤ M + 1 / 1000 → -1 / 1000 ≤ Z → Nk (W + Z) u → Pc M W X u
  | b (Z : Rat) : ((0 ≤ X ∧ X ≤ 6 * M ∧ Z = X) ∨ (X ≤ 0 ∧ Nk (X + 6 * M) Z) ∨ (6 * M ≤ X ∧ Nk (X - 6 * M) Z)) → M - 1 / 1000 ≤ Z → Z ≤ 3 * M + 1 / 1000 → Nk (W + M) u → Pc M W X u
  | c (Z : Rat) : ((0 ≤ X ∧ X ≤ 6 * M ∧ Z = X) ∨ (X ≤ 0 ∧ Nk (X + 6 * M) Z) ∨ (6 * M ≤ X ∧ Nk (X - 6 * M) Z)) → 3 * M - 1 / 1000 ≤ Z → Z ≤ 4 * M + 1 / 1000 → Nk (W + 4 * M - Z) u → Pc M W X u
  | d (Z : Rat) : ((0 ≤ X ∧ X ≤ 6 * M ∧ Z = X) ∨ (X ≤ 0 ∧ Nk (X + 6 * M) Z) ∨ (6 * M ≤ X ∧ Nk (X - 6 * M) Z)) → 4 * M - 1 / 1000 ≤ Z → Z ≤ 6 * M + 1 / 1000 → Nk W u → Pc M W X u

theorem WhereQ.range {M A B C Y : Rat} (D : WhereQ M A B C Y) (hM : 1 ≤ M) : 0 ≤ Y ∧ Y ≤ 6 * M - 1 := by cases D <;> grind
theorem pc0 {M A B C Y W X u : Rat} (D : WhereQ M A B C Y) (hM : 1 ≤ M) (hX : Nk (Y + M) X) (P : Pc M W X u) : Nc (M - C + W) u := by
  have R := D.range hM
  have h2 : ¬ X ≤ 0 := by clear D P; grind
  clear R
  cases P with
  | a Z h h3 h4 h5 => rcases h with ⟨h0, h1, rfl⟩ | ⟨h, _⟩ | h <;> first | exact absurd h h2 | (clear h2; cases D <;> grind)
  | b Z h h3 h4 h5 => rcases h with ⟨h0, h1, rfl⟩ | ⟨h, _⟩ | h <;> first | exact absurd h h2 | (clear h2; cases D <;> grind)
  | c Z h h3 h4 h5 => rcases h with ⟨h0, h1, rfl⟩ | ⟨h, _⟩ | h <;> first | exact absurd h h2 | (clear h2; cases D <;> grind)
  | d Z h h3 h4 h5 => rcases h with ⟨h0, h1, rfl⟩ | ⟨h, _⟩ | h <;> first | exact absurd h h2 | (clear h2; cases D <;> grind)
theorem pc1 {M A B C Y W X u : Rat} (D : WhereQ M A B C Y) (hM : 1 ≤ M) (hX : Nk (Y - M) X) (P : Pc M W X u) : Nc (M - A + W) u := by
  have R := D.range hM
  have h2 : ¬ 6 * M ≤ X := by clear D P; grind
  clear R
  cases P with
  | a Z h h3 h4 h5 => rcases h with ⟨h0, h1, rfl⟩ | h | ⟨h, _⟩ <;> first | exact absurd h h2 | (clear h2; cases D <;> grind)
  | b Z h h3 h4 h5 => rcases h with ⟨h0, h1, rfl⟩ | h | ⟨h, _⟩ <;> first | exact absurd h h2 | (clear h2; cases D <;> grind)
  | c Z h h3 h4 h5 => rcases h with ⟨h0, h1, rfl⟩ | h | ⟨h, _⟩ <;> first | exact absurd h h2 | (clear h2; cases D <;> grind)
  | d Z h h3 h4 h5 => rcases h with ⟨h0, h1, rfl⟩ | h | ⟨h, _⟩ <;> first | exact absurd h h2 | (clear h2; cases D <;> grind)
theorem pc2 {M A B C Y W X u : Rat} (D : WhereQ M A B C Y) (hM : 1 ≤ M) (hX : Nk (Y - 3 * M) X) (P : Pc M W X u) : Nc (M - B + W) u := by
  have R := D.range hM
  have h2 : ¬ 6 * M ≤ X := by clear D P; grind
  clear R
  cases P with
  | a Z h h3 h4 h5 => rcases h with ⟨h0, h1, rfl⟩ | h | ⟨h, _⟩ <;> first | exact absurd h h2 | (clear h2; cases D <;> grind)
  | b Z h h3 h4 h5 => rcases h with ⟨h0, h1, rfl⟩ | h | ⟨h, _⟩ <;> first | exact absurd h h2 | (clear h2; cases D <;> grind)
  | c Z h h3 h4 h5 => rcases h with ⟨h0, h1, rfl⟩ | h | ⟨h, _⟩ <;> first | exact absurd h h2 | (clear h2; cases D <;> grind)
  | d Z h h3 h4 h5 => rcases h with ⟨h0, h1, rfl⟩ | h | ⟨h, _⟩ <;> first | exact absurd h h2 | (clear h2; cases D <;> grind)

theorem vF_vl {m1 m2 x : UInt64} {μ1 μ2 r M W : Rat} (h1 : Vl m1 μ1) (h2 : Vl m2 μ2) (hx : Vl x r) (r1 : -1 < r) (r2 : r < 2) (hM : 1 ≤ M) (hM16 : M ≤ 16) (hW0 : 0 ≤ W) (hW16 : W ≤ 16)
    (n1 : W - 1 / 1000000 ≤ 32 * μ1 ∧ 32 * μ1 ≤ W + 1 / 1000000) (n2 : M + W - 1 / 1000000 ≤ 32 * μ2 ∧ 32 * μ2 ≤ M + W + 1 / 1000000) :
    ∃ ρ, Vl (vF m1 m2 x) ρ ∧ Pc M W (6 * (M * r)) (32 * ρ) := by
  obtain ⟨z, hz, hh⟩ := vl_mod1 hx r1 r2
  have z0 : -1 / 1000000 ≤ z := by rcases hh with h | h | h <;> grind
  have z1 : z ≤ 1 + 1 / 1000000 := by rcases hh with h | h | h <;> grind
  have Mz := nmulB (K := M) (x := r) (t := r) (B := 16) (e := eps) (by grind) hM16 (by constructor <;> grind)
  have key : (0 ≤ 6 * (M * r) ∧ 6 * (M * r) ≤ 6 * M ∧ 6 * (M * z) = 6 * (M * r)) ∨ (6 * (M * r) ≤ 0 ∧ Nk (6 * (M * r) + 6 * M) (6 * (M * z))) ∨ (6 * M ≤ 6 * (M * r) ∧ Nk (6 * (M * r) - 6 * M) (6 * (M * z))) := by
    rcases hh with ⟨g1, g2, g3⟩ | ⟨g1, g2⟩ | ⟨g1, g2, g3⟩
    · refine .inl ⟨?_, ?_, by rw [g3]⟩
      · have := Rat.mul_nonneg (show 0 ≤ M by grind) g1; grind
      · have := Rat.mul_le_mul_of_nonneg_left (Rat.le_of_lt g2) (show 0 ≤ M by grind); grind
    · refine .inr (.inl ⟨?_, ?_⟩)
      · have := Rat.mul_le_mul_of_nonneg_left (Rat.le_of_lt g1) (show 0 ≤ M by grind); grind
      · have := nmul (K := M) (B := 16) (by grind) hM16 g2
        constructor <;> grind
    · refine .inr (.inr ⟨?_, ?_⟩)
      · have := Rat.mul_le_mul_of_nonneg_left g1 (show 0 ≤ M by grind); grind
      · have := nmul (K := M) (B := 16) (by grind) hM16 g3
        constructor <;> grind
  have low : ∀ {p : Rat}, p ≤ z → M * p ≤ M * z := fun h => Rat.mul_le_mul_of_nonneg_left h (by grind)
  have up : ∀ {p : Rat}, z ≤ p → M * z ≤ M * p := fun h => Rat.mul_le_mul_of_nonneg_left h (by grind)
  have l0 := low z0
  have u1 := up z1
  obtain ⟨d, hd, nd⟩ := vl_sub h2 h1 (by grind) (by grind)
  have hz : Vl (divmod x c10).2 z := hz
  have v16 : Vl k16 _ := vl_16
  have v05 : Vl c05 _ := vl_05
  have v23 : Vl k23 _ := vl_23
  have v60 : Vl c60 _ := vl_60
  unfold vF
  dsimp only
  rw [vl_ltb hz v16, vl_ltb hz v05, vl_ltb hz v23]
  by_cases c1 : z < 6004799503160661 / 36028797018963968
  · rw [decide_eq_true c1, if_pos rfl]
    have uu := up (Rat.le_of_lt c1)
    have bz := nmulB (K := z) (x := M) (t := 32 * d) (B := 2) (e := 1 / 100000) (by grind) (by grind) (by constructor <;> grind)
    obtain ⟨e1, he1, ne1⟩ := vl_mul hd hz (by grind) (by grind)
    obtain ⟨e2, he2, ne2⟩ := vl_mul he1 v60 (by grind) (by grind)
    obtain ⟨ρ, hρ, nρ⟩ := vl_add h1 he2 (by grind) (by grind)
    exact ⟨ρ, hρ, .a (6 * (M * z)) key (by grind) (by grind) (by constructor <;> grind)⟩
  · rw [decide_eq_false c1, if_neg Bool.false_ne_true]
    have ll := low (Rat.not_lt.mp c1)
    by_cases c2 : z < 1 / 2
    · rw [decide_eq_true c2, if_pos rfl]
      have uu := up (Rat.le_of_lt c2)
      exact ⟨μ2, h2, .b (6 * (M * z)) key (by grind) (by grind) (by constructor <;> grind)⟩
    · rw [decide_eq_false c2, if_neg Bool.false_ne_true]
      have ll2 := low (Rat.not_lt.mp c2)
      by_cases c3 : z < 6004799503160661 / 9007199254740992
      · rw [decide_eq_true c3, if_pos rfl]
        have uu := up (Rat.le_of_lt c3)
        obtain ⟨g, hg, ng⟩ := vl_sub v23 hz (by grind) (by grind)
        have bg : -2 ≤ g ∧ g ≤ 2 := by constructor <;> grind
        have mg := nmul (K := M) (B := 16) (by grind) hM16 ng
        have bz := nmulB (K := g) (x := M) (t := 32 * d) (B := 2) (e := 1 / 100000) (by grind) (by grind) (by constructor <;> grind)
        obtain ⟨e1, he1, ne1⟩ := vl_mul hd hg (by grind) (by grind)
        obtain ⟨e2, he2, ne2⟩ := vl_mul he1 v60 (by grind) (by grind)
        obtain ⟨ρ, hρ, nρ⟩ := vl_add h1 he2 (by grind) (by grind)
        exact ⟨ρ, hρ, .c (6 * (M * z)) key (by grind) (by grind) (by constructor <;> grind)⟩
      · rw [decide_eq_false c3, if_neg Bool.false_ne_true]
        have ll3 := low (Rat.not_lt.mp c3)
        exact ⟨μ1, h1, .d (6 * (M * z)) key (by grind) (by grind) (by constructor <;> grind)⟩
end Mine
end

section
set_option Elab.async false
set_option linter.unusedVariables false
namespace Mine
open PySem PySem.Float64 PySem.W PyProof.Rows

theorem Col.sum {a b c m w : Nat} (C : Col a b c m w) : Vl (add (lit (m + w)) (lit w)) (((m : Rat) + 2 * (w : Rat)) / 32) := by
  have := C.hm; have := C.hw
  have h := vl_add_exact (vl_lit (k := m + w) (by omega)) (vl_lit (k := w) (by omega)) (j := ((2 * (m + 2 * w) : Nat) : Int)) (by
    rw [Rat.intCast_natCast, Rat.natCast_mul, Rat.natCast_add, Rat.natCast_add, Rat.natCast_mul]
    have e : ((2 : Nat) : Rat) = 2 := rfl
    rw [e]; grind) (by omega)
  rw [Rat.natCast_add] at h
  have e : ((m : Rat) + (w : Rat)) / 32 + (w : Rat) / 32 = ((m : Rat) + 2 * (w : Rat)) / 32 := by grind
  rwa [e] at h
theorem Col.rest {a b c m w : Nat} (C : Col a b c m w) : Vl (Float64.sub (Float64.sub c20 (lit (m + w))) (lit w)) ((64 - (m : Rat) - 2 * (w : Rat)) / 32) := by
  have h1 := C.hm
  have h2 := C.hw
  have e : ((2 : Nat) : Rat) = 2 := rfl
  have h := vl_sub_exact vl_20 (vl_lit (k := m + w) (by omega)) (j := (128 : Int) - ((2 * (m + w) : Nat) : Int)) (by
    rw [Rat.intCast_sub, Rat.intCast_natCast, Rat.natCast_mul, Rat.natCast_add, e]
    have e2 : ((128 : Int) : Rat) = 128 := rfl
    rw [e2]; grind) (by omega)
  have h' := vl_sub_exact h (vl_lit (k := w) (by omega)) (j := (128 : Int) - ((2 * (m + 2 * w) : Nat) : Int)) (by
    rw [Rat.intCast_sub, Rat.intCast_natCast, Rat.natCast_mul, Rat.natCast_add, Rat.natCast_add, Rat.natCast_mul, e]
    have e2 : ((128 : Int) : Rat) = 128 := rfl
    rw [e2]; grind) (by omega)
  rw [Rat.natCast_add] at h'
  have e3 : 2 - ((m : Rat) + (w : Rat)) / 32 - (w : Rat) / 32 = (64 - (m : Rat) - 2 * (w : Rat)) / 32 := by grind
  rwa [e3] at h'

/-- the three parts once m1, m2 are known -/
theorem hls_pieces {a b c m w : Nat} (C : Col a b c m w) (h1 : 1 ≤ m) {H m1 m2 : UInt64} {t Y μ1 μ2 : Rat} (hH : Vl H t) (t0 : 0 ≤ t) (t1 : t < 1) (y1 : Y - 1 / 10000 ≤ 6 * ((m : Rat) * t)) (y2 : 6 * ((m : Rat) * t) ≤ Y + 1 / 10000) (W : Where a b c m Y)
    (v1 : Vl m1 μ1) (v2 : Vl m2 μ2) (n1 : (w : Rat) - 1 / 1000000 ≤ 32 * μ1 ∧ 32 * μ1 ≤ (w : Rat) + 1 / 1000000) (n2 : (m : Rat) + (w : Rat) - 1 / 1000000 ≤ 32 * μ2 ∧ 32 * μ2 ≤ (m : Rat) + (w : Rat) + 1 / 1000000) :
    ∃ r0 r1 r2, Vl (vF m1 m2 (add (Float64.sub H sixth) k13)) r0 ∧ Vl (vF m1 m2 (Float64.sub H sixth)) r1 ∧ Vl (vF m1 m2 (Float64.sub (Float64.sub H sixth) k13)) r2 ∧
      Nc ((m - c + w : Nat) : Rat) (32 * r0) ∧ Nc ((m - a + w : Nat) : Rat) (32 * r1) ∧ Nc ((m - b + w : Nat) : Rat) (32 * r2) := by
  have hm := C.hm
  have hw := C.hw
  rw [natq_turn C.la, natq_turn C.lb, natq_turn C.lc]
  have D := W.q C h1
  have hM : (1 : Rat) ≤ (m : Rat) := natq_le h1
  have hM16 : (m : Rat) ≤ 16 := natq_le hm
  have hW0 : (0 : Rat) ≤ (w : Rat) := Rat.natCast_nonneg
  have hW16 : (w : Rat) ≤ 16 := natq_le hw
  generalize (m : Rat) = M at *
  generalize (a : Rat) = A at *
  generalize (b : Rat) = B at *
  generalize (c : Rat) = Cq at *
  generalize (w : Rat) = Wq at *
  have v13 : Vl k13 _ := vl_13
  obtain ⟨x1, hx1, k1⟩ := vl_sub hH vl_sixth (by grind) (by grind)
  obtain ⟨x0, hx0, k0⟩ := vl_add hx1 v13 (by grind) (by grind)
  obtain ⟨x2, hx2, k2⟩ := vl_sub hx1 v13 (by grind) (by grind)
  have l1 := nmul (K := M) (B := 16) (by grind) hM16 k1
  have l0 := nmul (K := M) (B := 16) (by grind) hM16 k0
  have l2 := nmul (K := M) (B := 16) (by grind) hM16 k2
  obtain ⟨r0, g0, p0⟩ := vF_vl v1 v2 hx0 (by grind) (by grind) hM hM16 hW0 hW16 n1 n2
  obtain ⟨r1, g1, p1⟩ := vF_vl v1 v2 hx1 (by grind) (by grind) hM hM16 hW0 hW16 n1 n2
  obtain ⟨r2, g2, p2⟩ := vF_vl v1 v2 hx2 (by grind) (by grind) hM hM16 hW0 hW16 n1 n2
  exact ⟨r0, r1, r2, g0, g1, g2, pc0 D hM (by constructor <;> grind) p0, pc1 D hM (by constructor <;> grind) p1, pc2 D hM (by constructor <;> grind) p2⟩

theorem hls_turn {a b c m w : Nat} (C : Col a b c m w) : HlsTurn (a + w) (b + w) (c + w) ((m - c + w : Nat) : Int) ((m - a + w : Nat) : Int) ((m - b + w : Nat) : Int) := by
  have hm := C.hm
  have hw := C.hw
  have la := C.la
  have lb := C.lb
  have lc := C.lc
  have hW0 : (0 : Rat) ≤ (w : Rat) := Rat.natCast_nonneg
  have hM0 : (0 : Rat) ≤ (m : Rat) := Rat.natCast_nonneg
  have hM16 : (m : Rat) ≤ 16 := natq_le hm
  have hW16 : (w : Rat) ≤ 16 := natq_le hw
  have v20 : Vl c20 2 := vl_20
  have v10 : Vl c10 1 := vl_10
  obtain ⟨L, hL, nL⟩ := vl_div (q := ((m : Rat) + 2 * (w : Rat)) / 64) C.sum v20 (by grind) (by grind) (by grind) (by grind)
  by_cases h0 : m = 0
  · subst h0
    have he : (cmp (fmin3 (lit (a + w)) (lit (b + w)) (lit (c + w))) (fmax3 (lit (a + w)) (lit (b + w)) (lit (c + w))) == some .eq) = true := by
      rw [C.min, C.max, lit_eq (by omega) (by omega)]; exact decide_eq_true (by omega)
    have ee : div (add (fmax3 (lit (a + w)) (lit (b + w)) (lit (c + w))) (fmin3 (lit (a + w)) (lit (b + w)) (lit (c + w)))) c20 = div (add (lit (0 + w)) (lit w)) c20 := by rw [C.max, C.min]
    refine ⟨0, div (add (fmax3 (lit (a + w)) (lit (b + w)) (lit (c + w))) (fmin3 (lit (a + w)) (lit (b + w)) (lit (c + w)))) c20, 0, div (add (lit (0 + w)) (lit w)) c20, div (add (lit (0 + w)) (lit w)) c20, div (add (lit (0 + w)) (lit w)) c20, fun X => hls_eq X _ _ _ he, fun X => ?_, ?_⟩
    · rw [ee]
      exact back_eq X (Float64.sub 0 sixth) (div (add (lit (0 + w)) (lit w)) c20) 0 (by decide +kernel)
    · have ea : 0 - a + w = w := by omega
      have eb : 0 - b + w = w := by omega
      have ec : 0 - c + w = w := by omega
      rw [ea, eb, ec]
      have z0 : ((0 : Nat) : Rat) = 0 := rfl
      rw [z0] at nL
      have hn : Nc (w : Rat) (32 * L) := by constructor <;> grind
      exact turn_of hL hL hL hn hn hn (by omega) (by omega) (by omega) vl_zero0 (by grind) (by grind)
  · have h1 : 1 ≤ m := by omega
    obtain ⟨t, Y, hH, t0, t1, y1, y2, W⟩ := hue_vl C h1
    have hM : (1 : Rat) ≤ (m : Rat) := natq_le h1
    have el : lF (lit (a + w)) (lit (b + w)) (lit (c + w)) = div (add (lit (m + w)) (lit w)) c20 := by unfold lF; rw [C.max, C.min]
    have ehi : sHi (lit (a + w)) (lit (b + w)) (lit (c + w)) = div (Float64.sub (lit (m + w)) (lit w)) (Float64.sub (Float64.sub c20 (lit (m + w))) (lit w)) := by unfold sHi; rw [C.max, C.min]
    have elo : sLo (lit (a + w)) (lit (b + w)) (lit (c + w)) = div (Float64.sub (lit (m + w)) (lit w)) (add (lit (m + w)) (lit w)) := by unfold sLo; rw [C.max, C.min]
    have he : (cmp (fmin3 (lit (a + w)) (lit (b + w)) (lit (c + w))) (fmax3 (lit (a + w)) (lit (b + w)) (lit (c + w))) == some .eq) = false := by
      rw [C.min, C.max, lit_eq (by omega) (by omega)]; exact decide_eq_false (by omega)
    have hr0 : isZero (Float64.sub (fmax3 (lit (a + w)) (lit (b + w)) (lit (c + w))) (fmin3 (lit (a + w)) (lit (b + w)) (lit (c + w)))) = false := by
      rw [C.max, C.min, vl_isZero C.range]; exact decide_eq_false (by grind)
    rcases hl : (cmp (lF (lit (a + w)) (lit (b + w)) (lit (c + w))) c05 == some .lt || cmp (lF (lit (a + w)) (lit (b + w)) (lit (c + w))) c05 == some .eq) with _ | _
    · -- light
      obtain ⟨q, eq, q0, q1⟩ := quot (N := (m : Rat)) (M := 64 - (m : Rat) - 2 * (w : Rat)) (by grind) (by grind) (by grind)
      obtain ⟨ts, hS, nq⟩ := vl_div (q := q) C.range C.rest (by grind) (by grind) (by grind) (by grind)
      have gS := nmulB (K := 64 - (m : Rat) - 2 * (w : Rat)) (x := q) (t := ts) (B := 64) (e := eps) (by grind) (by grind) nq
      have ts0 : 0 < ts := by
        refine (Rat.mul_lt_mul_left (c := 64 - (m : Rat) - 2 * (w : Rat)) (by grind)).mp ?_
        grind
      have lS := nmulB (K := ts) (x := ((m : Rat) + 2 * (w : Rat)) / 64) (t := L) (B := 2) (e := eps) (by grind) (by grind) nL
      obtain ⟨e1, he1, ne1⟩ := vl_add hL hS (by grind) (by grind)
      obtain ⟨e2, he2, ne2⟩ := vl_mul hL hS (by grind) (by grind)
      obtain ⟨μ2, hμ2, nμ2⟩ := vl_sub he1 he2 (by grind) (by grind)
      obtain ⟨e3, he3, ne3⟩ := vl_mul v20 hL (by grind) (by grind)
      obtain ⟨μ1, hμ1, nμ1⟩ := vl_sub he3 hμ2 (by grind) (by grind)
      have em2 : m2F (div (add (lit (m + w)) (lit w)) c20) (div (Float64.sub (lit (m + w)) (lit w)) (Float64.sub (Float64.sub c20 (lit (m + w))) (lit w))) = Float64.sub (add (div (add (lit (m + w)) (lit w)) c20) (div (Float64.sub (lit (m + w)) (lit w)) (Float64.sub (Float64.sub c20 (lit (m + w))) (lit w)))) (mul (div (add (lit (m + w)) (lit w)) c20) (div (Float64.sub (lit (m + w)) (lit w)) (Float64.sub (Float64.sub c20 (lit (m + w))) (lit w)))) := by
        unfold m2F
        rw [← el, hl]; rfl
      have V2 : Vl (m2F (div (add (lit (m + w)) (lit w)) c20) (div (Float64.sub (lit (m + w)) (lit w)) (Float64.sub (Float64.sub c20 (lit (m + w))) (lit w)))) μ2 := by rw [em2]; exact hμ2
      have V1 : Vl (m1F (div (add (lit (m + w)) (lit w)) c20) (div (Float64.sub (lit (m + w)) (lit w)) (Float64.sub (Float64.sub c20 (lit (m + w))) (lit w)))) μ1 := by unfold m1F; rw [em2]; exact hμ1
      obtain ⟨r0, r1, r2, g0, g1, g2, c0, c1, c2⟩ := hls_pieces C h1 hH t0 t1 y1 y2 W V1 V2 (by constructor <;> grind) (by constructor <;> grind)
      refine ⟨hueF (lit (a + w)) (lit (b + w)) (lit (c + w)), lF (lit (a + w)) (lit (b + w)) (lit (c + w)), sHi (lit (a + w)) (lit (b + w)) (lit (c + w)), vF (m1F (div (add (lit (m + w)) (lit w)) c20) (div (Float64.sub (lit (m + w)) (lit w)) (Float64.sub (Float64.sub c20 (lit (m + w))) (lit w)))) (m2F (div (add (lit (m + w)) (lit w)) c20) (div (Float64.sub (lit (m + w)) (lit w)) (Float64.sub (Float64.sub c20 (lit (m + w))) (lit w)))) (add (Float64.sub (hueF (lit (a + w)) (lit (b + w)) (lit (c + w))) sixth) k13), vF (m1F (div (add (lit (m + w)) (lit w)) c20) (div (Float64.sub (lit (m + w)) (lit w)) (Float64.sub (Float64.sub c20 (lit (m + w))) (lit w)))) (m2F (div (add (lit (m + w)) (lit w)) c20) (div (Float64.sub (lit (m + w)) (lit w)) (Float64.sub (Float64.sub c20 (lit (m + w))) (lit w)))) (Float64.sub (hueF (lit (a + w)) (lit (b + w)) (lit (c + w))) sixth), vF (m1F (div (add (lit (m + w)) (lit w)) c20) (div (Float64.sub (lit (m + w)) (lit w)) (Float64.sub (Float64.sub c20 (lit (m + w))) (lit w)))) (m2F (div (add (lit (m + w)) (lit w)) c20) (div (Float64.sub (lit (m + w)) (lit w)) (Float64.sub (Float64.sub c20 (lit (m + w))) (lit w)))) (Float64.sub (Float64.sub (hueF (lit (a + w)) (lit (b + w)) (lit (c + w))) sixth) k13), fun X => hls_hi X _ _ _ he hl ?_ hr0, fun X => ?_, ?_⟩
      · rw [C.max, C.min, vl_isZero C.rest]; exact decide_eq_false (by grind)
      · rw [el, ehi]
        exact back_ne X _ _ _ (by rw [vl_eqb hS vl_zero0]; exact decide_eq_false (by grind))
      · exact turn_of g0 g1 g2 c0 c1 c2 (by omega) (by omega) (by omega) hH t0 t1
    · obtain ⟨q, eq, q0, q1⟩ := quot (N := (m : Rat)) (M := (m : Rat) + 2 * (w : Rat)) (by grind) (by grind) (by grind)
      obtain ⟨ts, hS, nq⟩ := vl_div (q := q) C.range C.sum (by grind) (by grind) (by grind) (by grind)
      have gS := nmulB (K := (m : Rat) + 2 * (w : Rat)) (x := q) (t := ts) (B := 64) (e := eps) (by grind) (by grind) nq
      have ts0 : 0 < ts := by
        refine (Rat.mul_lt_mul_left (c := (m : Rat) + 2 * (w : Rat)) (by grind)).mp ?_
        grind
      obtain ⟨e1, he1, ne1⟩ := vl_add v10 hS (by grind) (by grind)
      have lS := nmulB (K := e1) (x := ((m : Rat) + 2 * (w : Rat)) / 64) (t := L) (B := 4) (e := eps) (by grind) (by grind) nL
      have lE := nmulB (K := (m : Rat) + 2 * (w : Rat)) (x := 1 + ts) (t := e1) (B := 64) (e := eps) (by grind) (by grind) ne1
      obtain ⟨μ2, hμ2, nμ2⟩ := vl_mul hL he1 (by grind) (by grind)
      obtain ⟨e3, he3, ne3⟩ := vl_mul v20 hL (by grind) (by grind)
      obtain ⟨μ1, hμ1, nμ1⟩ := vl_sub he3 hμ2 (by grind) (by grind)
      have em2 : m2F (div (add (lit (m + w)) (lit w)) c20) (div (Float64.sub (lit (m + w)) (lit w)) (add (lit (m + w)) (lit w))) = mul (div (add (lit (m + w)) (lit w)) c20) (add c10 (div (Float64.sub (lit (m + w)) (lit w)) (add (lit (m + w)) (lit w)))) := by
        unfold m2F
        rw [← el, hl]; rfl
      have V2 : Vl (m2F (div (add (lit (m + w)) (lit w)) c20) (div (Float64.sub (lit (m + w)) (lit w)) (add (lit (m + w)) (lit w)))) μ2 := by rw [em2]; exact hμ2
      have V1 : Vl (m1F (div (add (lit (m + w)) (lit w)) c20) (div (Float64.sub (lit (m + w)) (lit w)) (add (lit (m + w)) (lit w)))) μ1 := by unfold m1F; rw [em2]; exact hμ1
      obtain ⟨r0, r1, r2, g0, g1, g2, c0, c1, c2⟩ := hls_pieces C h1 hH t0 t1 y1 y2 W V1 V2 (by constructor <;> grind) (by constructor <;> grind)
      refine ⟨hueF (lit (a + w)) (lit (b + w)) (lit (c + w)), lF (lit (a + w)) (lit (b + w)) (lit (c + w)), sLo (lit (a + w)) (lit (b + w)) (lit (c + w)), vF (m1F (div (add (lit (m + w)) (lit w)) c20) (div (Float64.sub (lit (m + w)) (lit w)) (add (lit (m + w)) (lit w)))) (m2F (div (add (lit (m + w)) (lit w)) c20) (div (Float64.sub (lit (m + w)) (lit w)) (add (lit (m + w)) (lit w)))) (add (Float64.sub (hueF (lit (a + w)) (lit (b + w)) (lit (c + w))) sixth) k13), vF (m1F (div (add (lit (m + w)) (lit w)) c20) (div (Float64.sub (lit (m + w)) (lit w)) (add (lit (m + w)) (lit w)))) (m2F (div (add (lit (m + w)) (lit w)) c20) (div (Float64.sub (lit (m + w)) (lit w)) (add (lit (m + w)) (lit w)))) (Float64.sub (hueF (lit (a + w)) (lit (b + w)) (lit (c + w))) sixth), vF (m1F (div (add (lit (m + w)) (lit w)) c20) (div (Float64.sub (lit (m + w)) (lit w)) (add (lit (m + w)) (lit w)))) (m2F (div (add (lit (m + w)) (lit w)) c20) (div (Float64.sub (lit (m + w)) (lit w)) (add (lit (m + w)) (lit w)))) (Float64.sub (Float64.sub (hueF (lit (a + w)) (lit (b + w)) (lit (c + w))) sixth) k13), fun X => hls_lo X _ _ _ he hl ?_ hr0, fun X => ?_, ?_⟩
      · rw [C.max, C.min, vl_isZero C.sum]; exact decide_eq_false (by grind)
      · rw [el, elo]
        exact back_ne X _ _ _ (by rw [vl_eqb hS vl_zero0]; exact decide_eq_false (by grind))
      · exact turn_of g0 g1 g2 c0 c1 c2 (by omega) (by omega) (by omega) hH t0 t1
end Mine
end

section
open PySem PySem.W PyProof.Rows PySem.Calls PySem.Spec
set_option Elab.async false
set_option linter.unusedVariables false
namespace Mine

theorem least3 (a b c : Int) : leastOf [a, b, c] = min a (min b c) := rfl
theorem min_is (a b : Int) : min a b ≤ a ∧ min a b ≤ b ∧ (min a b = a ∨ min a b = b) := by omega
theorem least_is (a b c : Int) : ∃ L, leastOf [a, b, c] = L ∧ L ≤ a ∧ L ≤ b ∧ L ≤ c ∧ (L = a ∨ L = b ∨ L = c) := by
  obtain ⟨x1, x2, x3⟩ := min_is b c
  obtain ⟨y1, y2, y3⟩ := min_is a (min b c)
  exact ⟨_, rfl, y1, Int.le_trans y2 x1, Int.le_trans y2 x2, y3.imp id fun h => x3.imp h.trans h.trans⟩
theorem least_eq {a b c L : Int} (h1 : L ≤ a) (h2 : L ≤ b) (h3 : L ≤ c) (h : L = a ∨ L = b ∨ L = c) : leastOf [a, b, c] = L := by
  obtain ⟨M, e, m1, m2, m3, m⟩ := least_is a b c
  rw [e]
  rcases h with rfl | rfl | rfl <;> rcases m with rfl | rfl | rfl <;> first | rfl | exact Int.le_antisymm (by assumption) (by assumption)
theorem most_is (a b c : Nat) : ∃ m, a ≤ m ∧ b ≤ m ∧ c ≤ m ∧ (a = m ∨ b = m ∨ c = m) := by
  rcases Nat.le_total a b with h | h <;> rcases Nat.le_total b c with k | k
  · exact ⟨c, Nat.le_trans h k, k, Nat.le_refl _, .inr (.inr rfl)⟩
  · exact ⟨b, h, Nat.le_refl _, k, .inr (.inl rfl)⟩
  · rcases Nat.le_total a c with l | l
    · exact ⟨c, l, k, Nat.le_refl _, .inr (.inr rfl)⟩
    · exact ⟨a, Nat.le_refl _, h, l, .inl rfl⟩
  · exact ⟨a, Nat.le_refl _, h, Nat.le_trans k h, .inl rfl⟩
theorem cast_turn {m n v : Nat} {L K r : Int} (h : n ≤ m) (hn : (n : Int) = r - L) (hK : K = m + L + v) : ((m - n + v : Nat) : Int) = K - r := by omega
theorem cast_part {n v : Nat} {L r : Int} (hn : (n : Int) = r - L) : r - L + (v : Int) = ((n + v : Nat) : Int) := by rw [Int.natCast_add, hn]
/-- the turned colour's least part is the white -/
theorem turn_least {m n v : Nat} {L K r : Int} (h : n ≤ m) (hn : (n : Int) = r - L) (hK : K = m + L + v) : (v : Int) ≤ K - r ∧ (n = m → (v : Int) = K - r) := by omega
theorem col_least {a b c m v : Nat} {L K ra rb rc : Int} (C : Col a b c m v) (ha : (a : Int) = ra - L) (hb : (b : Int) = rb - L) (hc : (c : Int) = rc - L) (hK : K = m + L + v) : leastOf [K - ra, K - rb, K - rc] = (v : Int) :=
  have A := turn_least C.la ha hK
  have B := turn_least C.lb hb hK
  have D := turn_least C.lc hc hK
  least_eq A.1 B.1 D.1 (C.mx.imp A.2 fun h => h.imp B.2 D.2)
theorem least_rot (a b c : Int) : leastOf [a, b, c] = leastOf [b, c, a] := by
  obtain ⟨L, e, h1, h2, h3, h⟩ := least_is a b c
  rw [e]
  refine (least_eq h2 h3 h1 ?_).symm
  rcases h with h | h | h
  · exact .inr (.inr h)
  · exact .inl h
  · exact .inr (.inl h)
theorem fdiv7 (x : Int) : x.fdiv 7 = x / 7 := Int.fdiv_eq_ediv_of_nonneg _ (by decide)
theorem fmod7 (x : Int) : x.fmod 7 = x % 7 := Int.fmod_eq_emod_of_nonneg _ (by decide)
theorem bit0 (f : Int) : (f.fdiv (2 ^ 0)).fmod 2 = f % 2 := by
  rw [show ((2 : Int) ^ 0) = 1 by decide, Int.fdiv_one, Int.fmod_eq_emod_of_nonneg _ (by decide)]
theorem bit1 (f : Int) : (f.fdiv (2 ^ 1)).fmod 2 = f / 2 % 2 := by
  rw [show ((2 : Int) ^ 1) = 2 by decide, Int.fdiv_eq_ediv_of_nonneg _ (by decide), Int.fmod_eq_emod_of_nonneg _ (by decide)]
theorem bit2 (f : Int) : (f.fdiv (2 ^ 2)).fmod 2 = f / 4 % 2 := by
  rw [show ((2 : Int) ^ 2) = 4 by decide, Int.fdiv_eq_ediv_of_nonneg _ (by decide), Int.fmod_eq_emod_of_nonneg _ (by decide)]

set_option maxHeartbeats 1000000
/-- what a spelling step leaves: p the colour before, q the colour after -/
structure SpR (p q : Tri) (f : Nat) : Prop where
  fig : f < 7
  r : ∃ ra rb rc b0 b1 b2 : Int, (f : Int) % 2 = b0 ∧ (f : Int) / 2 % 2 = b1 ∧ (f : Int) / 4 % 2 = b2 ∧ p.a = ra + b0 ∧ p.b = rb + b1 ∧ p.c = rc + b2 ∧
    7 * (q.a - q.b) = 2 * ra - 3 * rb + rc ∧ 7 * (q.b - q.c) = 2 * rb - 3 * rc + ra

theorem sevenths {ra rb rc z K s P : Int} (hz : ra + 2 * rb + 4 * rc = 7 * z) (s1 : s ≤ 2 * ra + (K - rb)) (s2 : s ≤ 2 * rb + (K - rc)) (s3 : s ≤ 2 * rc + (K - ra))
    (sz : s = 2 * ra + (K - rb) ∨ s = 2 * rb + (K - rc) ∨ s = 2 * rc + (K - ra)) (la : -1 ≤ ra ∧ ra ≤ P) (lb : -1 ≤ rb ∧ rb ≤ P) (lc : -1 ≤ rc ∧ rc ≤ P) :
    ∃ qa qb qc, 7 * qa = 2 * ra + (K - rb) - s ∧ 7 * qb = 2 * rb + (K - rc) - s ∧ 7 * qc = 2 * rc + (K - ra) - s ∧ 7 * qa ≤ 3 * (P + 1) ∧ 7 * qb ≤ 3 * (P + 1) ∧ 7 * qc ≤ 3 * (P + 1) := by
  rcases sz with h | h | h
  · exact ⟨0, -(2 * z - rb - rc), -(3 * z - rb - 2 * rc), by omega, by omega, by omega, by omega, by omega, by omega⟩
  · exact ⟨2 * z - rb - rc, 0, rc - z, by omega, by omega, by omega, by omega, by omega, by omega⟩
  · exact ⟨3 * z - rb - 2 * rc, z - rc, 0, by omega, by omega, by omega, by omega, by omega, by omega⟩
theorem nat_of {r L : Int} (h : L ≤ r) : ∃ n : Nat, (n : Int) = r - L := ⟨(r - L).toNat, Int.toNat_of_nonneg (Int.sub_nonneg_of_le h)⟩
theorem le_16 {n : Nat} {r s L : Int} (hn : (n : Int) = r - L) (hL : L = s) (h : r - s ≤ 16) : n ≤ 16 := by omega
theorem nat_zero {n : Nat} {r L : Int} (hn : (n : Int) = r - L) (hL : L = r) : n = 0 := by omega
/-- what lies over the least part -/
theorem over {ra rb rc : Int} (d1 : ra - rb ≤ 16) (d2 : rb - ra ≤ 16) (d3 : rb - rc ≤ 16) (d4 : rc - rb ≤ 16) (d5 : ra - rc ≤ 16) (d6 : rc - ra ≤ 16) :
    ∃ (L : Int) (na nb nc m : Nat), leastOf [ra, rb, rc] = L ∧ (na : Int) = ra - L ∧ (nb : Int) = rb - L ∧ (nc : Int) = rc - L ∧ (∀ w, w ≤ 16 → Col na nb nc m w) := by
  obtain ⟨L, hL, L1, L2, L3, Lz⟩ := least_is ra rb rc
  obtain ⟨na, hna⟩ := nat_of L1
  obtain ⟨nb, hnb⟩ := nat_of L2
  obtain ⟨nc, hnc⟩ := nat_of L3
  obtain ⟨m, m1, m2, m3, mx⟩ := most_is na nb nc
  have bs : na ≤ 16 ∧ nb ≤ 16 ∧ nc ≤ 16 := by
    rcases Lz with h | h | h
    · exact ⟨le_16 hna h (by omega), le_16 hnb h d2, le_16 hnc h d6⟩
    · exact ⟨le_16 hna h d1, le_16 hnb h (by omega), le_16 hnc h d4⟩
    · exact ⟨le_16 hna h d5, le_16 hnb h d3, le_16 hnc h (by omega)⟩
  refine ⟨L, na, nb, nc, m, hL, hna, hnb, hnc, fun w hw => ⟨Lz.imp (nat_zero hna) fun h => h.imp (nat_zero hnb) (nat_zero hnc), m1, m2, m3, mx, ?_, hw⟩⟩
  rcases mx with h | h | h
  · exact h ▸ bs.1
  · exact h ▸ bs.2.1
  · exact h ▸ bs.2.2
theorem diff_16 {x y P : Int} (hx : -1 ≤ x ∧ x ≤ P) (hy : -1 ≤ y ∧ y ≤ P) (hP : P ≤ 15) : x - y ≤ 16 := by omega
theorem rest_in {a b r P : Int} (h : a - b = r) (h0 : 0 ≤ a) (h1 : a ≤ P) (hb : 0 ≤ b ∧ b ≤ 1) : -1 ≤ r ∧ r ≤ P := by omega
theorem fdiv_of {q x : Int} (h : 7 * q = x) : x.fdiv 7 = q := by rw [fdiv7]; omega
theorem seven_nonneg {q x s : Int} (h : 7 * q = x - s) (hs : s ≤ x) : 0 ≤ q := by omega
theorem small_ok {n m w : Nat} (h : n ≤ m) (hm : m ≤ 16) (hw : w ≤ 16) : n + w ≤ 1000 := by omega
theorem figure_of (a b c : Int) : ∃ (f : Nat) (b0 b1 b2 z : Int), f < 7 ∧ (f : Int) = (a + 2 * b + 4 * c) % 7 ∧ (f : Int) % 2 = b0 ∧ (f : Int) / 2 % 2 = b1 ∧ (f : Int) / 4 % 2 = b2 ∧ (0 ≤ b0 ∧ b0 ≤ 1) ∧ (0 ≤ b1 ∧ b1 ≤ 1) ∧ (0 ≤ b2 ∧ b2 ≤ 1) ∧
    (a - b0) + 2 * (b - b1) + 4 * (c - b2) = 7 * z := by
  obtain ⟨f, hf⟩ : ∃ f : Nat, (f : Int) = (a + 2 * b + 4 * c) % 7 := ⟨((a + 2 * b + 4 * c) % 7).toNat, by omega⟩
  exact ⟨f, _, _, _, (a + 2 * b + 4 * c) / 7, by omega, hf, rfl, rfl, rfl, by omega, by omega, by omega, by omega⟩
theorem sp_step {v : Nat} (hv : v ≤ 16) {p : Tri} {P : Int} (h0 : 0 ≤ p.a ∧ 0 ≤ p.b ∧ 0 ≤ p.c) (h1 : p.a ≤ P ∧ p.b ≤ P ∧ p.c ≤ P) (hP : P ≤ 15) :
    ∃ (q : Tri) (f : Nat), SpStep v p q f ∧ SpR p q f ∧ (0 ≤ q.a ∧ 0 ≤ q.b ∧ 0 ≤ q.c) ∧ (7 * q.a ≤ 3 * (P + 1) ∧ 7 * q.b ≤ 3 * (P + 1) ∧ 7 * q.c ≤ 3 * (P + 1)) := by
  obtain ⟨a, b, c⟩ := p
  dsimp only at h0 h1
  obtain ⟨f, b0, b1, b2, z, hf7, hf, hb0, hb1, hb2, k0, k1, k2, hz⟩ := figure_of a b c
  obtain ⟨ra, hra⟩ : ∃ x, a - b0 = x := ⟨_, rfl⟩
  obtain ⟨rb, hrb⟩ : ∃ x, b - b1 = x := ⟨_, rfl⟩
  obtain ⟨rc, hrc⟩ : ∃ x, c - b2 = x := ⟨_, rfl⟩
  rw [hra, hrb, hrc] at hz
  have la := rest_in hra h0.1 h1.1 k0
  have lb := rest_in hrb h0.2.1 h1.2.1 k1
  have lc := rest_in hrc h0.2.2 h1.2.2 k2
  obtain ⟨L, na, nb, nc, m, hL, hna, hnb, hnc, hC⟩ := over (diff_16 la lb hP) (diff_16 lb la hP) (diff_16 lb lc hP) (diff_16 lc lb hP) (diff_16 la lc hP) (diff_16 lc la hP)
  have C := hC v hv
  have T := hsv_turn C
  obtain ⟨K, hK⟩ : ∃ K : Int, K = m + L + v := ⟨_, rfl⟩
  rw [cast_turn C.la hna hK, cast_turn C.lb hnb hK, cast_turn C.lc hnc hK] at T
  obtain ⟨s, hs, s1, s2, s3, sz⟩ := least_is (2 * ra + (K - rb)) (2 * rb + (K - rc)) (2 * rc + (K - ra))
  obtain ⟨qa, qb, qc, hqa, hqb, hqc, ua, ub, uc⟩ := sevenths hz s1 s2 s3 sz la lb lc
  have tl : leastOf [K - rb, K - rc, K - ra] = (v : Int) := (least_rot _ _ _).symm.trans (col_least C hna hnb hnc hK)
  refine ⟨⟨qa, qb, qc⟩, f, ⟨⟨ra, rb, rc⟩, ⟨K - rb, K - rc, K - ra⟩, na + v, nb + v, nc + v, ?_, ?_, ?_, ?_, ?_, ?_, ?_, small_ok C.la C.hm hv, small_ok C.lb C.hm hv, small_ok C.lc C.hm hv, T, tl, ?_, ?_, ?_, ?_, ?_, ?_⟩, ⟨hf7, ra, rb, rc, b0, b1, b2, hb0, hb1, hb2, ?_, ?_, ?_, ?_, ?_⟩, ⟨seven_nonneg hqa s1, seven_nonneg hqb s2, seven_nonneg hqc s3⟩, ua, ub, uc⟩
  · rw [fmod7]; exact hf.symm
  · rw [bit0, hb0]; exact hra
  · rw [bit1, hb1]; exact hrb
  · rw [bit2, hb2]; exact hrc
  · dsimp only [Tri.least]; rw [hL]; exact cast_part hna
  · dsimp only [Tri.least]; rw [hL]; exact cast_part hnb
  · dsimp only [Tri.least]; rw [hL]; exact cast_part hnc
  · dsimp only; rw [hs]; exact fdiv_of hqa
  · dsimp only; rw [hs]; exact fdiv_of hqb
  · dsimp only; rw [hs]; exact fdiv_of hqc
  · dsimp only; rw [hs, hqa]; exact Int.sub_add_cancel _ _
  · dsimp only; rw [hs, hqb]; exact Int.sub_add_cancel _ _
  · dsimp only; rw [hs, hqc]; exact Int.sub_add_cancel _ _
  · exact (Int.sub_add_cancel a b0).symm.trans (by rw [hra])
  · exact (Int.sub_add_cancel b b1).symm.trans (by rw [hrb])
  · exact (Int.sub_add_cancel c b2).symm.trans (by rw [hrc])
  · show 7 * (qa - qb) = _
    clear T tl hs hf hb0 hb1 hb2 k0 k1 k2 hz la lb lc hC C hna hnb hnc hK hL sz s1 s2 s3 ua ub uc
    omega
  · show 7 * (qb - qc) = _
    clear T tl hs hf hb0 hb1 hb2 k0 k1 k2 hz la lb lc hC C hna hnb hnc hK hL sz s1 s2 s3 ua ub uc
    omega
end Mine
end

section
open PySem PySem.W PyProof.Rows PySem.Calls PySem.Spec
set_option Elab.async false
set_option linter.unusedVariables false
set_option maxHeartbeats 1000000
namespace Mine

theorem diff_in {a b x y : Int} (h : a - b = x - y) (h1 : x ≤ 15) (h0 : 0 ≤ y) : a - b ≤ 16 := by omega
theorem diff_sum {a b c x y z : Int} (h1 : a - b = x - y) (h2 : b - c = y - z) : a - c = x - z := by omega
theorem diff_neg {a b x y : Int} (h1 : a - b = x - y) : b - a = y - x := by omega
theorem back_a {a b c ra rb rc K b0 b1 qa qb qc : Int} (d1 : a - b = qa - qb) (d2 : b - c = qb - qc) (k1 : 7 * (qa - qb) = 2 * ra - 3 * rb + rc) (k2 : 7 * (qb - qc) = 2 * rb - 3 * rc + ra) :
    (2 * a + (K - c) + b0) - (2 * b + (K - a) + b1) = (ra + b0) - (rb + b1) := by omega
theorem back_b {a b c ra rb rc K b1 b2 qa qb qc : Int} (d1 : a - b = qa - qb) (d2 : b - c = qb - qc) (k1 : 7 * (qa - qb) = 2 * ra - 3 * rb + rc) (k2 : 7 * (qb - qc) = 2 * rb - 3 * rc + ra) :
    (2 * b + (K - a) + b1) - (2 * c + (K - b) + b2) = (rb + b1) - (rc + b2) := by omega

theorem pt_step {v : Nat} (hv : v ≤ 16) {p' p q : Tri} {f : Nat} (R : SpR p q f) (d1 : p'.a - p'.b = q.a - q.b) (d2 : p'.b - p'.c = q.b - q.c)
    (h0 : 0 ≤ q.a ∧ 0 ≤ q.b ∧ 0 ≤ q.c) (h1 : q.a ≤ 15 ∧ q.b ≤ 15 ∧ q.c ≤ 15) : ∃ s, PtStep v p' s f ∧ s.a - s.b = p.a - p.b ∧ s.b - s.c = p.b - p.c := by
  obtain ⟨a, b, c⟩ := p'
  obtain ⟨ra, rb, rc, b0, b1, b2, hb0, hb1, hb2, e0, e1, e2, k1, k2⟩ := R.r
  dsimp only at d1 d2
  have d3 := diff_sum d1 d2
  obtain ⟨L, na, nb, nc, m, hL, hna, hnb, hnc, hC⟩ := over (diff_in d1 h1.1 h0.2.1) (diff_in (diff_neg d1) h1.2.1 h0.1) (diff_in d2 h1.2.1 h0.2.2) (diff_in (diff_neg d2) h1.2.2 h0.2.1) (diff_in d3 h1.1 h0.2.2) (diff_in (diff_neg d3) h1.2.2 h0.1)
  have C := hC v hv
  have T := hls_turn C
  obtain ⟨K, hK⟩ : ∃ K : Int, K = m + L + v := ⟨_, rfl⟩
  rw [cast_turn C.la hna hK, cast_turn C.lb hnb hK, cast_turn C.lc hnc hK] at T
  have tl : leastOf [K - c, K - a, K - b] = (v : Int) := (least_rot _ _ _).trans (col_least C hna hnb hnc hK)
  refine ⟨⟨2 * a + (K - c) + b0, 2 * b + (K - a) + b1, 2 * c + (K - b) + b2⟩, ⟨⟨K - c, K - a, K - b⟩, na + v, nb + v, nc + v, ?_, ?_, ?_, small_ok C.la C.hm hv, small_ok C.lb C.hm hv, small_ok C.lc C.hm hv, T, tl, ?_, ?_, ?_⟩, ?_, ?_⟩
  · dsimp only [Tri.least]; rw [hL]; exact cast_part hna
  · dsimp only [Tri.least]; rw [hL]; exact cast_part hnb
  · dsimp only [Tri.least]; rw [hL]; exact cast_part hnc
  · dsimp only; rw [bit0, hb0]
  · dsimp only; rw [bit1, hb1]
  · dsimp only; rw [bit2, hb2]
  · rw [e0, e1]; exact back_a d1 d2 k1 k2
  · rw [e1, e2]; exact back_b d1 d2 k1 k2

/-- the carry of a figure's weight by seven -/
def kf : Nat → Int
  | 0 => 0
  | 1 => 0
  | 2 => -3
  | 3 => -3
  | 4 => 2
  | 5 => 2
  | _ => -1
def Tri.wt (p : Tri) : Int := p.a - 19 * p.b + 18 * p.c
theorem bits_wt : ∀ f : Fin 7, ((f.1 : Int) % 2) - 19 * ((f.1 : Int) / 2 % 2) + 18 * ((f.1 : Int) / 4 % 2) = f.1 + 7 * kf f.1 := by decide
theorem wt_lin {ra rb rc b0 b1 b2 F qa qb qc : Int} (k1 : 7 * (qa - qb) = 2 * ra - 3 * rb + rc) (k2 : 7 * (qb - qc) = 2 * rb - 3 * rc + ra) (h : b0 - 19 * b1 + 18 * b2 = F) :
    (ra + b0) - 19 * (rb + b1) + 18 * (rc + b2) = F + 21 * (qa - 19 * qb + 18 * qc) + 343 * (qb - qc) := by omega
theorem wt_step {p q : Tri} {f : Nat} (R : SpR p q f) : p.wt = f + 7 * kf f + 21 * q.wt + 343 * (q.b - q.c) := by
  obtain ⟨hf, ra, rb, rc, b0, b1, b2, hb0, hb1, hb2, e0, e1, e2, k1, k2⟩ := R
  have hw := bits_wt ⟨f, hf⟩
  dsimp only at hw
  rw [hb0, hb1, hb2] at hw
  unfold Tri.wt
  rw [e0, e1, e2]
  exact wt_lin k1 k2 hw
theorem wt_three {W1 W2 W3 W4 f g e kf kg ke y1 y2 y3 : Int} (h1 : W1 = f + 7 * kf + 21 * W2 + 343 * y1) (h2 : W2 = g + 7 * kg + 21 * W3 + 343 * y2) (h3 : W3 = e + 7 * ke + 21 * W4 + 343 * y3) :
    W1 = f + 7 * kf + 21 * g + 147 * kg + 98 * e + 343 * (e + 9 * ke + 27 * W4 + y1 + 21 * y2 + 441 * y3) := by grind
theorem bound_6 {x : Int} (h : 7 * x ≤ 3 * (15 + 1)) : x ≤ 6 := by omega
theorem bound_3 {x : Int} (h : 7 * x ≤ 3 * (6 + 1)) : x ≤ 3 := by omega
theorem bound_1 {x : Int} (h : 7 * x ≤ 3 * (3 + 1)) : x ≤ 1 := by omega
theorem grey_same {a b c a' b' c' L L' : Int} (d1 : a - b = a' - b') (d2 : b - c = b' - c') (hL : L ≤ a ∧ L ≤ b ∧ L ≤ c) (h : L = a ∨ L = b ∨ L = c) (hL' : L' ≤ a' ∧ L' ≤ b' ∧ L' ≤ c') (h' : L' = a' ∨ L' = b' ∨ L' = c') :
    a - L = a' - L' ∧ b - L = b' - L' ∧ c - L = c' - L' := by
  have : a - L = a' - L' := by
    rcases h with h | h | h <;> rcases h' with h' | h' | h' <;> omega
  exact ⟨this, by omega, by omega⟩

/-- all that is asked of a host's colour -/
structure HostOk (v : Nat) (h : Host) : Prop where
  fig : h.e < 7 ∧ h.g < 7 ∧ h.f < 7
  sp : ∃ q r, SpStep v h.c q h.f ∧ SpStep v q r h.g ∧ SpStep v r h.left h.e
  pt : ∃ q r s, PtStep v h.left q h.e ∧ PtStep v q r h.g ∧ PtStep v r s h.f ∧ s.a - s.least = h.c.a - h.c.least ∧ s.b - s.least = h.c.b - h.c.least ∧ s.c - s.least = h.c.c - h.c.least
  wt : ∃ z : Int, h.wt = h.f + 7 * kf h.f + 21 * h.g + 147 * kf h.g + 98 * h.e + 343 * z

theorem host_of {v : Nat} (hv : v ≤ 16) {c : Tri} (h0 : 0 ≤ c.a ∧ 0 ≤ c.b ∧ 0 ≤ c.c) (h1 : c.a ≤ 15 ∧ c.b ≤ 15 ∧ c.c ≤ 15) : ∃ h : Host, h.c = c ∧ HostOk v h := by
  obtain ⟨q, f, S1, R1, q0, q1⟩ := sp_step hv h0 h1 (by decide)
  have q2 := And.intro (bound_6 q1.1) (And.intro (bound_6 q1.2.1) (bound_6 q1.2.2))
  obtain ⟨r, g, S2, R2, r0, r1⟩ := sp_step hv (P := 6) q0 q2 (by decide)
  have r2 := And.intro (bound_3 r1.1) (And.intro (bound_3 r1.2.1) (bound_3 r1.2.2))
  obtain ⟨l, e, S3, R3, l0, l1⟩ := sp_step hv (P := 3) r0 r2 (by decide)
  have l2 := And.intro (bound_1 l1.1) (And.intro (bound_1 l1.2.1) (bound_1 l1.2.2))
  have up : ∀ {x y z k : Int}, k ≤ 15 → (x ≤ k ∧ y ≤ k ∧ z ≤ k) → x ≤ 15 ∧ y ≤ 15 ∧ z ≤ 15 := fun h ⟨a, b, c⟩ => ⟨Int.le_trans a h, Int.le_trans b h, Int.le_trans c h⟩
  obtain ⟨x, P1, x1, x2⟩ := pt_step hv (p' := l) R3 rfl rfl l0 (up (by decide) l2)
  obtain ⟨y, P2, y1, y2⟩ := pt_step hv (p' := x) R2 x1 x2 r0 (up (by decide) r2)
  obtain ⟨s, P3, s1, s2⟩ := pt_step hv (p' := y) R1 y1 y2 q0 (up (by decide) q2)
  refine ⟨⟨c, l, e, g, f⟩, rfl, ⟨⟨R3.fig, R2.fig, R1.fig⟩, ⟨q, r, S1, S2, S3⟩, ⟨x, y, s, P1, P2, P3, ?_⟩, ⟨_, wt_three (wt_step R1) (wt_step R2) (wt_step R3)⟩⟩⟩
  obtain ⟨L, hL, L1, L2, L3, Lz⟩ := least_is s.a s.b s.c
  obtain ⟨L', hL', L1', L2', L3', Lz'⟩ := least_is c.a c.b c.c
  dsimp only [Tri.least]
  rw [hL, hL']
  exact grey_same s1 s2 ⟨L1, L2, L3⟩ Lz ⟨L1', L2', L3'⟩ Lz'
end Mine
end

section
open PySem PySem.W PyProof.Rows PySem.Calls PySem.Spec
set_option Elab.async false
set_option linter.unusedVariables false
set_option maxHeartbeats 1000000
namespace Mine

theorem fmod_eq {x : Int} {k : Int} (h : 0 ≤ k) : x.fmod k = x % k := Int.fmod_eq_emod_of_nonneg _ h
theorem fig_eq {f f' : Nat} (h : f < 7) (h' : f' < 7) {k : Int} : (k * 7 + (f' - f : Int)) % 7 = 0 ↔ f = f' := by omega
theorem fig_three {f f' : Nat} (h : f < 7) (h' : f' < 7) {k : Int} : (k * 49 + 21 * (f' - f : Int)) % 49 = 0 ↔ f = f' := by omega
theorem fig_two {f f' : Nat} (h : f < 7) (h' : f' < 7) {k : Int} : (k * 343 + 98 * (f' - f : Int)) % 343 = 0 ↔ f = f' := by omega
theorem mod_49_7 {x : Int} (h : x % 49 = 0) : x % 7 = 0 := by omega
theorem mod_343_49 {x : Int} (h : x % 343 = 0) : x % 49 = 0 := by omega
theorem wt_7 {f g e kf kg z f' g' e' kf' kg' z' : Int} : (f' + 7 * kf' + 21 * g' + 147 * kg' + 98 * e' + 343 * z') - (f + 7 * kf + 21 * g + 147 * kg + 98 * e + 343 * z) =
    (kf' - kf + 3 * (g' - g) + 21 * (kg' - kg) + 14 * (e' - e) + 49 * (z' - z)) * 7 + (f' - f) := by grind
theorem wt_49 {f g e kf kg z g' e' kg' z' : Int} : (f + 7 * kf + 21 * g' + 147 * kg' + 98 * e' + 343 * z') - (f + 7 * kf + 21 * g + 147 * kg + 98 * e + 343 * z) =
    (3 * (kg' - kg) + 2 * (e' - e) + 7 * (z' - z)) * 49 + 21 * (g' - g) := by grind
theorem wt_343 {f g e kf kg z e' z' : Int} : (f + 7 * kf + 21 * g + 147 * kg + 98 * e' + 343 * z') - (f + 7 * kf + 21 * g + 147 * kg + 98 * e + 343 * z) =
    (z' - z) * 343 + 98 * (e' - e) := by grind
theorem wts_of {f g e f' g' e' : Nat} {W W' z z' : Int} (hf : f < 7) (hg : g < 7) (he : e < 7) (hf' : f' < 7) (hg' : g' < 7) (he' : e' < 7)
    (hW : W = f + 7 * kf f + 21 * g + 147 * kf g + 98 * e + 343 * z) (hW' : W' = f' + 7 * kf f' + 21 * g' + 147 * kf g' + 98 * e' + 343 * z') :
    ((W' - W).fmod 343 = 0 ↔ f = f' ∧ g = g' ∧ e = e') ∧ ((W' - W).fmod 49 = 0 ↔ f = f' ∧ g = g') ∧ ((W' - W).fmod 7 = 0 ↔ f = f') := by
  rw [fmod_eq (by decide), fmod_eq (by decide), fmod_eq (by decide), hW, hW']
  have h7 : ((f' + 7 * kf f' + 21 * g' + 147 * kf g' + 98 * e' + 343 * z') - (f + 7 * kf f + 21 * g + 147 * kf g + 98 * e + 343 * z)) % 7 = 0 ↔ f = f' := by
    rw [wt_7]; exact fig_eq hf hf'
  by_cases ef : f = f'
  · subst ef
    have h49 : ((f + 7 * kf f + 21 * g' + 147 * kf g' + 98 * e' + 343 * z') - (f + 7 * kf f + 21 * g + 147 * kf g + 98 * e + 343 * z)) % 49 = 0 ↔ g = g' := by
      rw [wt_49]; exact fig_three hg hg'
    refine ⟨?_, h49.trans ⟨fun h => ⟨rfl, h⟩, fun h => h.2⟩, h7⟩
    by_cases eg : g = g'
    · subst eg
      rw [wt_343]
      exact (fig_two he he').trans ⟨fun h => ⟨rfl, rfl, h⟩, fun h => h.2.2⟩
    · exact ⟨fun h => absurd (h49.mp (mod_343_49 h)) eg, fun h => absurd h.2.1 eg⟩
  · exact ⟨⟨fun h => absurd (h7.mp (mod_49_7 (mod_343_49 h))) ef, fun h => absurd h.1 ef⟩, ⟨fun h => absurd (h7.mp (mod_49_7 h)) ef, fun h => absurd h.1 ef⟩, h7⟩

theorem sum_take_small : ∀ {l : List Int}, (∀ x ∈ l, 0 ≤ x ∧ x < 4096) → ∀ j, 0 ≤ (l.take j).sum ∧ (l.take j).sum ≤ 4096 * (l.length : Int)
  | [], _, j => by simp
  | a :: l, h, 0 => by simp; omega
  | a :: l, h, j + 1 => by
    have h1 := sum_take_small (l := l) (fun x hx => h x (List.mem_cons_of_mem _ hx)) j
    have h2 := h a List.mem_cons_self
    simp only [List.take_succ_cons, List.sum_cons, List.length_cons]
    omega
theorem sum_small {l : List Int} (h : ∀ x ∈ l, 0 ≤ x ∧ x < 4096) (hl : l.length ≤ 4) : PySem.SumFits l := by
  intro j hj
  have h1 := sum_take_small (l := l) h (j + 1)
  have h2 : 0 ≤ l.getD j 0 ∧ l.getD j 0 < 4096 := by
    rw [List.getD_eq_getElem?_getD, List.getElem?_eq_getElem hj]
    exact h _ (List.getElem_mem hj)
  unfold PySem.InLong
  constructor <;> omega
theorem numsOf_small (ns : List Int) : ∀ x ∈ numsOf ns, 0 ≤ x ∧ x < 4096 := by
  intro x hx
  obtain ⟨y, _, rfl⟩ := List.mem_map.mp hx
  exact ⟨Int.fmod_nonneg_of_pos _ (by decide), Int.fmod_lt_of_pos _ (by decide)⟩
theorem numsOf_len (ns : List Int) : (numsOf ns).length ≤ 4 := by
  unfold numsOf
  rw [List.length_map, List.length_take]; omega
def pickN (a b c d : Int) : Nat → Int
  | 0 => a
  | 1 => b
  | 2 => c
  | _ => d
theorem four_of (l : List Int) (h : ∀ x ∈ l, 0 ≤ x ∧ x < 4096) (hl : l.length ≤ 4) :
    ∃ N : Nat → Int, l ++ [621, 3848, 1666, 2058].drop l.length = [N 0, N 1, N 2, N 3] ∧ ∀ i, 0 ≤ N i ∧ N i < 4096 := by
  have pk : ∀ a b c d : Int, (0 ≤ a ∧ a < 4096) → (0 ≤ b ∧ b < 4096) → (0 ≤ c ∧ c < 4096) → (0 ≤ d ∧ d < 4096) → ∀ i, 0 ≤ pickN a b c d i ∧ pickN a b c d i < 4096 := by
    intro a b c d ha hb hc hd i
    unfold pickN
    split <;> assumption
  rcases l with _ | ⟨a, _ | ⟨b, _ | ⟨c, _ | ⟨d, _ | ⟨e, r⟩⟩⟩⟩⟩
  · exact ⟨pickN 621 3848 1666 2058, rfl, pk _ _ _ _ (by decide) (by decide) (by decide) (by decide)⟩
  · exact ⟨pickN a 3848 1666 2058, rfl, pk _ _ _ _ (h a (by simp)) (by decide) (by decide) (by decide)⟩
  · exact ⟨pickN a b 1666 2058, rfl, pk _ _ _ _ (h a (by simp)) (h b (by simp)) (by decide) (by decide)⟩
  · exact ⟨pickN a b c 2058, rfl, pk _ _ _ _ (h a (by simp)) (h b (by simp)) (h c (by simp)) (by decide)⟩
  · exact ⟨pickN a b c d, rfl, pk _ _ _ _ (h a (by simp)) (h b (by simp)) (h c (by simp)) (h d (by simp))⟩
  · simp at hl

theorem law_in {ns : List Int} (hn : ns.length ≤ 900) : ∃ v H N, LawIn ns v H N := by
  obtain ⟨N, hN, hb⟩ := four_of (numsOf ns) (numsOf_small ns) (numsOf_len ns)
  obtain ⟨v, hv⟩ : ∃ v : Nat, (v : Int) = (15 + (numsOf ns).sum).fmod 17 := ⟨((15 + (numsOf ns).sum).fmod 17).toNat, Int.toNat_of_nonneg (Int.fmod_nonneg_of_pos _ (by decide))⟩
  have hv16 : v ≤ 16 := by
    have : (15 + (numsOf ns).sum).fmod 17 < 17 := Int.fmod_lt_of_pos _ (by decide)
    omega
  have hh : ∀ i, ∃ h : Host, h.c = ⟨(N i).fmod 16, ((N i).fdiv 16).fmod 16, (N i).fdiv 256⟩ ∧ HostOk v h := by
    intro i
    have := hb i
    refine host_of hv16 ?_ ?_
    · dsimp only
      rw [fmod_eq (by decide), fmod_eq (by decide), Int.fdiv_eq_ediv_of_nonneg _ (by decide), Int.fdiv_eq_ediv_of_nonneg _ (by decide)]
      omega
    · dsimp only
      rw [fmod_eq (by decide), fmod_eq (by decide), Int.fdiv_eq_ediv_of_nonneg _ (by decide), Int.fdiv_eq_ediv_of_nonneg _ (by decide)]
      omega
  refine ⟨v, fun i => Classical.choose (hh i), N, ⟨hn, sum_small (numsOf_small ns) (numsOf_len ns), hv.symm, hN, fun i _ => (Classical.choose_spec (hh i)).1, fun i _ => (Classical.choose_spec (hh i)).2.fig, fun i _ => (Classical.choose_spec (hh i)).2.sp, fun i _ => (Classical.choose_spec (hh i)).2.pt, fun i j _ _ => ?_⟩⟩
  have O1 := (Classical.choose_spec (hh i)).2
  have O2 := (Classical.choose_spec (hh j)).2
  obtain ⟨z, w1⟩ := O1.wt
  obtain ⟨z', w2⟩ := O2.wt
  obtain ⟨a1, a2, a3⟩ := O1.fig
  obtain ⟨b1, b2, b3⟩ := O2.fig
  exact wts_of a3 a2 a1 b3 b2 b1 w1 w2
end Mine
end

section
open PySem PySem.W PyProof.Rows PySem.Calls PySem.Spec
set_option Elab.async false
namespace Mine
theorem repL_intsAre {h : Heap} {av : Addr → Prop} : ∀ {vs : List Value} {ns : List Int}, IntsAre vs ns → RepL h av (ns.map .int) vs
  | _, _, .nil => rfl
  | _, _, .cons n t k => ⟨_, _, rfl, ⟨t, rfl⟩, repL_intsAre k⟩
theorem well_lst {P : Params} {h : Heap} {a : Addr} {xs : List WData} {lvs : List Value} (x : Well P h (.ref a) (.list xs)) (y : h.IsList a lvs.toArray) : h.get? a = some (lstO lvs 0) := by
  cases x with
  | list e _ =>
    obtain ⟨o, eo, _, n, ed⟩ := y
    rw [e] at eo
    cases eo
    cases ed
    exact e
theorem post_true (as : List WData) (bs : List WData) : (PySem.Challenge.rw_pu0034_01.row.claim.post as (.bool true) bs) = true := by
  show (WShape.has [] (.bool true) .bool && (WTm.eq .res (.lit (.bool true))).holds [] { args := as, res := some (.bool true), after := bs }) = true
  have h1 : WShape.has [] (.bool true) .bool = true := by decide +kernel
  have h2 : W.same (.bool true) (.bool true) = true := by decide +kernel
  rw [h1]
  simp [WTm.holds, WTm.value, h2]
end Mine
end

open PySem PySem.W PyProof.Rows PySem.Calls PySem.Spec
set_option maxRecDepth 100000 in
set_option maxHeartbeats 8000000 in
theorem PySem.Challenge.cw_pu0034_01_holds : PySem.Challenge.rw_pu0034_01.Holds := by
  refine Mine.hd ?_
  intro w s₀ s₁ mg mb G Y fa o pm cd doc dV kV ho hd hcd hD hmg hg args vals as hpre hlay hrd hwl hlo
  have KX := kIn_of Y
  have C : Mine.Cx (Mine.hd.heap_39 w.params) s₁.heap := ⟨KX, G.T.nolimit, ⟨mb, G.T.b, G.T.builtins⟩⟩
  have hfa : mg (Str.ofString "law") = some (.ref 126) := mg_of KX G.T.g (by rfl)
  rw [hfa] at hmg
  cases hmg
  clear ho hd hcd hD
  wrow_args hpre hlay hrd hwl hlo
  rename_i ns _ _ _ _ _ asl _ la lvs _ hL _ w1 _ hI _ hlen _
  obtain ⟨v, H, N, A⟩ := Mine.law_in (ns := ns) (by omega)
  have hk := Mine.well_lst w1 hL
  refine Mine.law_pre (prog := PySem.Challenge.rw_pu0034_01.row.prog) (w := w) C A callerA s₁ (fun _ => False) [.ref la] _ _ ⟨rfl, by decide +kernel, by decide +kernel⟩ (fun _ _ e => e) (fun _ e => e.elim) ⟨.ref la, [], rfl, ⟨la, lvs, 0, rfl, fun e => e, hk, Mine.repL_intsAre hI⟩, rfl⟩ ?_
  intro u h' tk kp ru
  have hu : u = .bool true := ru
  subst hu
  refine GoodW.toG ⟨.inl ⟨.bool true, .bool true, [], rfl, fun _ => rfl, .bool true, ?_, fun _ => ⟨.nil, fun _ e => by cases e⟩⟩, kp, rfl, hg⟩
  exact Mine.post_true _ _
