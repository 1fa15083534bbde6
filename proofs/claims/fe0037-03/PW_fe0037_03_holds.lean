import PyProof.Rows.All
import Wide.All
import OpenK.AllK
import Wide.FinOn
import Lean
import PySem.Challenge.RW_fe0037_03
open PySem PySem.Calls PyProof.Rows
set_option Elab.async false
set_option maxRecDepth 100000

namespace B58

/-- pure values -/
inductive PV where
  | none
  | bool (b : Bool)
  | int (i : Int)
  | bytes (b : List UInt8)
  | list (is : List Int)
  | tup (is : List Int)
  | dict (f : Int → Option Int)
  | range (a b c : Int)
  | ilist (is : List Int)

section
variable (prog : Program) (w : World)

/-- a value of the model bears a pure value, in a heap, away from bad addresses -/
def Rep (bad : List Addr) (h : Heap) (v : Value) : PV → Prop
  | .none => v = .none
  | .bool b => v = .bool b
  | .int i => ∃ t, v = .int i t
  | .bytes b => ∃ t, v = .bytes b.toArray t
  | .list is => ∃ a vs, v = .ref a ∧ a ∉ bad ∧ h.PlainList a vs.toArray ∧ IntsAre vs is
  | .tup is => ∃ a vs, v = .ref a ∧ IsTup h a vs.toArray ∧ IntsAre vs is
  | .dict f => ∃ d kvs, v = .ref d ∧ d ∉ bad ∧ (d == sysModules) = false ∧ h.DictOf (intKind prog w) d kvs ∧
      ∀ k, match f k with | some i => ∃ t, valueAt kvs k = some (.int i t) | Option.none => valueAt kvs k = Option.none
  | .range a b c => ∃ r t u x, v = .ref r ∧ IsRange h r a b c t u x
  | .ilist is => ∃ a vs, v = .ref a ∧ h.IsList a vs.toArray ∧ IntsAre vs is

end

theorem IsTup.up {h h' : Heap} {a : Addr} {its : Array Value} (x : IsTup h a its) (hk : ∀ b o, h.get? b = some o → h'.get? b = some o) : IsTup h' a its :=
  let ⟨o, ho, r⟩ := x; ⟨o, hk _ _ ho, r⟩
theorem PlainList.up {h h' : Heap} {a : Addr} {its : Array Value} (x : h.PlainList a its) (hk : ∀ b o, h.get? b = some o → h'.get? b = some o) : h'.PlainList a its :=
  let ⟨n, ho⟩ := x; ⟨n, hk _ _ ho⟩
theorem IsList.up {h h' : Heap} {a : Addr} {its : Array Value} (x : h.IsList a its) (hk : ∀ b o, h.get? b = some o → h'.get? b = some o) : h'.IsList a its :=
  let ⟨o, ho, r⟩ := x; ⟨o, hk _ _ ho, r⟩

section
variable {prog : Program} {w : World}
theorem Rep.up {bad : List Addr} {h h' : Heap} {v : Value} {p : PV} (x : Rep prog w bad h v p) (hk : ∀ b o, h.get? b = some o → h'.get? b = some o) : Rep prog w bad h' v p := by
  cases p with
  | none => exact x
  | bool b => exact x
  | int i => exact x
  | bytes b => exact x
  | list is => obtain ⟨a, vs, e, hb, hl, hi⟩ := x; exact ⟨a, vs, e, hb, PlainList.up hl hk, hi⟩
  | tup is => obtain ⟨a, vs, e, hl, hi⟩ := x; exact ⟨a, vs, e, IsTup.up hl hk, hi⟩
  | dict f => obtain ⟨d, kvs, e, hb, hs, hd, hf⟩ := x; exact ⟨d, kvs, e, hb, hs, hd.keep hk, hf⟩
  | range a b c => obtain ⟨r, t, u, x, e, hr⟩ := x; exact ⟨r, t, u, x, e, hk _ _ hr⟩
  | ilist is => obtain ⟨a, vs, e, hl, hi⟩ := x; exact ⟨a, vs, e, IsList.up hl hk, hi⟩

theorem Rep.mono {bad bad' : List Addr} {h : Heap} {v : Value} {p : PV} (x : Rep prog w bad h v p) (hb : ∀ a, a ∈ bad' → a ∈ bad) : Rep prog w bad' h v p := by
  cases p with
  | list is => obtain ⟨a, vs, e, hb', hl, hi⟩ := x; exact ⟨a, vs, e, fun q => hb' (hb a q), hl, hi⟩
  | dict f => obtain ⟨d, kvs, e, hb', r⟩ := x; exact ⟨d, kvs, e, fun q => hb' (hb d q), r⟩
  | _ => exact x
end

/-- s' is s with a heap that keeps all, and tokens drawn -/
structure Kp (s s' : Shared) : Prop where
  out : PySem.Keeps s s'
theorem Kp.refl (s : Shared) : Kp s s := ⟨s.heap, s.toks, rfl, fun _ _ e => e⟩
theorem Kp.trans {s s' s'' : Shared} (a : Kp s s') (b : Kp s' s'') : Kp s s'' := by
  obtain ⟨h, t, rfl, k⟩ := a
  obtain ⟨h', t', rfl, k'⟩ := b
  exact ⟨h', t', rfl, fun b o e => k' b o (k b o e)⟩
theorem Kp.get {s s' : Shared} (a : Kp s s') : ∀ b o, s.heap.get? b = some o → s'.heap.get? b = some o := by
  obtain ⟨h, t, rfl, k⟩ := a; exact k
theorem Kp.toks (s : Shared) (t : Nat) : Kp s { s with toks := t } := ⟨s.heap, t, rfl, fun _ _ e => e⟩
theorem Kp.push (s : Shared) (o : Obj) (t : Nat) : Kp s { s with heap := s.heap.push o, toks := t } := ⟨_, t, rfl, fun _ _ e => Heap.get?_push_of_some _ e⟩
theorem Kp.of (s : Shared) {h : Heap} {t : Nat} (k : ∀ b o, s.heap.get? b = some o → h.get? b = some o) : Kp s { s with heap := h, toks := t } := ⟨h, t, rfl, k⟩

/-- s' has all that s has -/
structure Hx (s s' : Shared) : Prop where
  get : ∀ b o, s.heap.get? b = some o → s'.heap.get? b = some o
theorem Kp.hx {s s' : Shared} (k : Kp s s') : Hx s s' := ⟨k.get⟩
theorem Hx.trans {s s' s'' : Shared} (a : Hx s s') (b : Kp s' s'') : Hx s s'' := ⟨fun x o e => b.get x o (a.get x o e)⟩
theorem Hx.tr {s s' s'' : Shared} (a : Hx s s') (b : Hx s' s'') : Hx s s'' := ⟨fun x o e => b.get x o (a.get x o e)⟩
theorem Hx.refl (s : Shared) : Hx s s := ⟨fun _ _ e => e⟩

section
variable (prog : Program) (w : World) (A : Around) (env : Env) (bad : List Addr)

/-- an expression has a pure value, from any state that keeps s -/
def Ev (s : Shared) (e : Expr) (p : PV) : Prop :=
  ∀ (s₁ : Shared) (Q : Value → Shared → Prop) (E : Value → Shared → Prop), Hx s s₁ → (∀ v s₂, Kp s₁ s₂ → Rep prog w bad s₂.heap v p → Q v s₂) → wpAny (model prog w) A (eval e env) Q E s₁

/-- a test comes out as b -/
def Tr (s : Shared) (e : Expr) (b : Bool) : Prop :=
  ∀ (s₁ : Shared) (Q : Bool → Shared → Prop) (E : Value → Shared → Prop), Hx s s₁ → (∀ s₂, Kp s₁ s₂ → Q b s₂) → wpAny (model prog w) A (isTrue e env (eval e env)) Q E s₁

/-- the addresses that are barred are in use -/
def Live (bad : List Addr) (s : Shared) : Prop := ∀ b, b ∈ bad → ∃ o, s.heap.get? b = some o

/-- an operation on values: -/
def Op (s : Shared) (m : Sem Value) (p : PV) : Prop :=
  ∀ (Q : Value → Shared → Prop) (E : Value → Shared → Prop), (∀ v s₂, Kp s s₂ → Rep prog w bad s₂.heap v p → Q v s₂) → wpAny (model prog w) A m Q E s

/-- an operator of pure values -/
def BinR (op : Operator) (p q r : PV) : Prop :=
  ∀ (s : Shared) (v u : Value), Live bad s → Rep prog w [] s.heap v p → Rep prog w [] s.heap u q → Op prog w A bad s (binaryOp op v u) r

def CmpR (op : CmpOp) (p q r : PV) : Prop :=
  ∀ (s : Shared) (v u : Value), Rep prog w [] s.heap v p → Rep prog w [] s.heap u q → Op prog w A [] s (compareOp op v u) r

def TruR (p : PV) (b : Bool) : Prop :=
  ∀ (s : Shared) (v : Value) (Q : Bool → Shared → Prop) (E : Value → Shared → Prop), Rep prog w [] s.heap v p → (∀ s₂, Kp s s₂ → Q b s₂) → wpAny (model prog w) A (truthy v) Q E s
end

theorem Live.up {bad : List Addr} {s s' : Shared} (h : Live bad s) (k : Hx s s') : Live bad s' := fun b hb => let ⟨o, ho⟩ := h b hb; ⟨o, k.get b o ho⟩
theorem Live.fresh {bad : List Addr} {s : Shared} (h : Live bad s) : s.heap.objs.size ∉ bad := fun q => let ⟨_, ho⟩ := h _ q; absurd (Heap.lt_size ho) (Nat.lt_irrefl _)

section
variable {prog : Program} {w : World} {A : Around} {env : Env} {bad : List Addr} {s s' : Shared}

theorem Ev.up {e : Expr} {p : PV} (h : Ev prog w A env bad s e p) (k : Hx s s') : Ev prog w A env bad s' e p := fun s₁ Q E k₁ hQ => h s₁ Q E (k.tr k₁) hQ
theorem Tr.up {e : Expr} {b : Bool} (h : Tr prog w A env s e b) (k : Hx s s') : Tr prog w A env s' e b := fun s₁ Q E k₁ hQ => h s₁ Q E (k.tr k₁) hQ
theorem Ev.weak {e : Expr} {p : PV} (h : Ev prog w A env bad s e p) : Ev prog w A env [] s e p := fun s₁ Q E k₁ hQ => h s₁ Q E k₁ fun v s₂ k r => hQ v s₂ k (r.mono (fun _ q => nomatch q))
/-- a value that is no list lies away from all -/
def PV.flat : PV → Bool
  | .list _ => false
  | .dict _ => false
  | _ => true
theorem Rep.flat {h : Heap} {v : Value} {p : PV} {bad bad' : List Addr} (hp : p.flat = true) (r : Rep prog w bad h v p) : Rep prog w bad' h v p := by
  cases p with
  | list is => cases hp
  | dict f => cases hp
  | _ => exact r
theorem Ev.flat {e : Expr} {p : PV} {bad' : List Addr} (h : Ev prog w A env bad s e p) (hp : p.flat = true) : Ev prog w A env bad' s e p := fun s₁ Q E k₁ hQ => h s₁ Q E k₁ fun v s₂ k r => hQ v s₂ k (r.flat hp)

-- constants
theorem Ev.cInt {i : Int} {k : Nat} {pos : Pos} : Ev prog w A env bad s (.Constant (.int i) k pos) (.int i) := fun s₁ Q E _ hQ => wpAny_Constant_int (hQ _ _ (Kp.toks _ _) ⟨_, rfl⟩)
theorem Ev.cBool {b : Bool} {k : Nat} {pos : Pos} : Ev prog w A env bad s (.Constant (.bool b) k pos) (.bool b) := fun s₁ Q E _ hQ => wpAny_Constant_bool (hQ _ _ (Kp.refl _) rfl)
theorem Ev.cBytes {b : List UInt8} {k : Nat} {pos : Pos} : Ev prog w A env bad s (.Constant (.bytes b) k pos) (.bytes b) := fun s₁ Q E _ hQ => PySem.W.Constant_bytes (hQ _ _ (Kp.toks _ _) ⟨_, rfl⟩)

-- binary operators
theorem Ev.bin {l r : Expr} {op : Operator} {pos : Pos} {p q x : PV} (hl : Ev prog w A env [] s l p) (hr : Ev prog w A env [] s r q) (hb : Live bad s) (ho : BinR prog w A bad op p q x) :
    Ev prog w A env bad s (.BinOp l op r pos) x := fun s₁ Q E k₁ hQ =>
  wpAny_BinOp (hl s₁ _ _ k₁ fun v s₂ k₂ rv => hr s₂ _ _ (k₁.trans k₂) fun u s₃ k₃ ru =>
    ho s₃ v u (hb.up ((k₁.trans k₂).trans k₃)) (rv.up k₃.get) ru _ _ fun y s₄ k₄ ry => hQ y s₄ ((k₂.trans k₃).trans k₄) ry)

theorem Ev.cmp {l r : Expr} {op : CmpOp} {pos : Pos} {p q x : PV} (hl : Ev prog w A env [] s l p) (hr : Ev prog w A env [] s r q) (ho : CmpR prog w A op p q x) (hx : x.flat = true)
    (hm : behindInMarks op r = false := by with_unfolding_all rfl) :
    Ev prog w A env bad s (.Compare l [op] [r] pos) x := fun s₁ Q E k₁ hQ =>
  wpAny_Compare1 (hl s₁ _ _ k₁ fun v s₂ k₂ rv => hr s₂ _ _ (k₁.trans k₂) fun u s₃ k₃ ru =>
    ho s₃ v u (rv.up k₃.get) ru _ _ fun y s₄ k₄ ry => hQ y s₄ ((k₂.trans k₃).trans k₄) (ry.flat hx)) hm

theorem Tr.cmp {l r : Expr} {op : CmpOp} {pos : Pos} {p q : PV} {b : Bool} (hl : Ev prog w A env [] s l p) (hr : Ev prog w A env [] s r q) (ho : CmpR prog w A op p q (.bool b))
    (hm : behindInMarks op r = false := by with_unfolding_all rfl) :
    Tr prog w A env s (.Compare l [op] [r] pos) b := fun s₁ Q E k₁ hQ =>
  wpAny_isTrue_Compare1 (hl s₁ _ _ k₁ fun v s₂ k₂ rv => hr s₂ _ _ (k₁.trans k₂) fun u s₃ k₃ ru =>
    ho s₃ v u (rv.up k₃.get) ru _ _ fun y s₄ k₄ ry => by
      obtain rfl : y = .bool b := ry
      exact wpAny_truthy_bool (hQ s₄ ((k₂.trans k₃).trans k₄))) hm

theorem Tr.val {e : Expr} {p : PV} {b : Bool} (he : Ev prog w A env [] s e p) (ht : TruR prog w A p b)
    (hi : ∀ whole, isTrue e env whole = (do let v ← whole; standAt e.pos; holding [v] (truthy v)) := by intro _; rfl) : Tr prog w A env s e b := fun s₁ Q E k₁ hQ =>
  wpAny_isTrue_value (he s₁ _ _ k₁ fun v s₂ k₂ rv => ht s₂ v _ _ rv fun s₃ k₃ => hQ s₃ (k₂.trans k₃)) (hi _)

theorem Tr.not {e : Expr} {pos : Pos} {b : Bool} (h : Tr prog w A env s e b) : Tr prog w A env s (.UnaryOp .Not e pos) (!b) := fun s₁ Q E k₁ hQ =>
  isTrue_not (h s₁ _ _ k₁ fun s₂ k₂ => hQ s₂ k₂)

/-- all of, any of -/
inductive TrAll (prog : Program) (w : World) (A : Around) (env : Env) (s : Shared) : BoolOp → List Expr → Bool → Prop
  | andNil : TrAll prog w A env s .And [] true
  | orNil : TrAll prog w A env s .Or [] false
  | and {e es b c} : Tr prog w A env s e b → (b = true → TrAll prog w A env s .And es c) → TrAll prog w A env s .And (e :: es) (b && c)
  | or {e es b c} : Tr prog w A env s e b → (b = false → TrAll prog w A env s .Or es c) → TrAll prog w A env s .Or (e :: es) (b || c)

theorem TrAll.sound {op : BoolOp} {es : List Expr} {b : Bool} (h : TrAll prog w A env s op es b) :
    ∀ (s₁ : Shared) (Q : Bool → Shared → Prop) (E : Value → Shared → Prop), Hx s s₁ → (∀ s₂, Kp s₁ s₂ → Q b s₂) → wpAny (model prog w) A (allTrue op es env) Q E s₁ := by
  induction h with
  | andNil => intro s₁ Q E k hQ; exact wpAny_allTrue_And_nil (hQ _ (Kp.refl _))
  | orNil => intro s₁ Q E k hQ; exact wpAny_allTrue_Or_nil (hQ _ (Kp.refl _))
  | @and e es b c he _ ih =>
    intro s₁ Q E k hQ
    refine wpAny_allTrue_And_cons (he s₁ _ _ k fun s₂ k₂ => ?_)
    cases b with
    | true => exact ih rfl s₂ Q E (k.trans k₂) fun s₃ k₃ => by simpa using hQ s₃ (k₂.trans k₃)
    | false => exact hQ s₂ k₂
  | @or e es b c he _ ih =>
    intro s₁ Q E k hQ
    refine wpAny_allTrue_Or_cons (he s₁ _ _ k fun s₂ k₂ => ?_)
    cases b with
    | true => exact hQ s₂ k₂
    | false => exact ih rfl s₂ Q E (k.trans k₂) fun s₃ k₃ => by simpa using hQ s₃ (k₂.trans k₃)
theorem Tr.boolop {op : BoolOp} {es : List Expr} {pos : Pos} {b : Bool} (h : TrAll prog w A env s op es b) : Tr prog w A env s (.BoolOp op es pos) b := fun s₁ Q E k₁ hQ =>
  wpAny_isTrue_BoolOp (h.sound s₁ Q E k₁ hQ)

theorem Ev.not {e : Expr} {pos : Pos} {p : PV} {b : Bool} (h : Ev prog w A env [] s e p) (ht : TruR prog w A p b) : Ev prog w A env bad s (.UnaryOp .Not e pos) (.bool (!b)) := fun s₁ Q E k₁ hQ =>
  UnaryOp_ (h s₁ _ _ k₁ fun v s₂ k₂ rv => not_value (ht s₂ v _ _ rv fun s₃ k₃ => hQ _ s₃ (k₂.trans k₃) rfl))
theorem Ev.neg {e : Expr} {pos : Pos} {i : Int} (h : Ev prog w A env [] s e (.int i)) : Ev prog w A env bad s (.UnaryOp .USub e pos) (.int (-i)) := fun s₁ Q E k₁ hQ =>
  UnaryOp_ (h s₁ _ _ k₁ fun v s₂ k₂ rv => by
    obtain ⟨t, rfl⟩ := rv
    exact neg_int (hQ _ _ (k₂.trans (Kp.toks _ _)) ⟨_, rfl⟩))

/-- the values of a written and | or that are bools -/
inductive EvBools (prog : Program) (w : World) (A : Around) (env : Env) (s : Shared) : BoolOp → List Expr → Bool → Prop
  | one {op e b} : Ev prog w A env [] s e (.bool b) → EvBools prog w A env s op [e] b
  | and {e f es b c} : Ev prog w A env [] s e (.bool b) → (b = true → EvBools prog w A env s .And (f :: es) c) → EvBools prog w A env s .And (e :: f :: es) (b && c)
  | or {e f es b c} : Ev prog w A env [] s e (.bool b) → (b = false → EvBools prog w A env s .Or (f :: es) c) → EvBools prog w A env s .Or (e :: f :: es) (b || c)
theorem EvBools.sound {op : BoolOp} {es : List Expr} {b : Bool} {pos : Pos} (h : EvBools prog w A env s op es b) :
    ∀ (s₁ : Shared) (Q : Value → Shared → Prop) (E : Value → Shared → Prop), Hx s s₁ → (∀ s₂, Kp s₁ s₂ → Q (.bool b) s₂) → wpAny (model prog w) A (boolOp pos op (evalEach es env)) Q E s₁ := by
  induction h with
  | @one op e b he =>
    intro s₁ Q E k hQ
    show wpAny _ _ (boolOp pos op [eval e env]) _ _ _
    unfold boolOp
    exact he s₁ _ _ k fun v s₂ k₂ rv => by obtain rfl : v = .bool b := rv; exact hQ s₂ k₂
  | @and e f es b c he _ ih =>
    intro s₁ Q E k hQ
    show wpAny _ _ (boolOp pos .And (eval e env :: eval f env :: evalEach es env)) _ _ _
    unfold boolOp
    refine wpAny_bind (he s₁ _ _ k fun v s₂ k₂ rv => ?_)
    obtain rfl : v = .bool b := rv
    refine wpAny_bind (wpAny_standAt (wpAny_bind (wpAny_holding (wpAny_truthy_bool ?_))))
    cases b with
    | true => exact ih rfl s₂ Q E (k.trans k₂) fun s₃ k₃ => by simpa using hQ s₃ (k₂.trans k₃)
    | false => exact wpAny_pure (hQ s₂ k₂)
  | @or e f es b c he _ ih =>
    intro s₁ Q E k hQ
    show wpAny _ _ (boolOp pos .Or (eval e env :: eval f env :: evalEach es env)) _ _ _
    unfold boolOp
    refine wpAny_bind (he s₁ _ _ k fun v s₂ k₂ rv => ?_)
    obtain rfl : v = .bool b := rv
    refine wpAny_bind (wpAny_standAt (wpAny_bind (wpAny_holding (wpAny_truthy_bool ?_))))
    cases b with
    | true => exact wpAny_pure (hQ s₂ k₂)
    | false => exact ih rfl s₂ Q E (k.trans k₂) fun s₃ k₃ => by simpa using hQ s₃ (k₂.trans k₃)
theorem Ev.boolop {op : BoolOp} {es : List Expr} {pos : Pos} {b : Bool} (h : EvBools prog w A env s op es b) : Ev prog w A env bad s (.BoolOp op es pos) (.bool b) := fun s₁ Q E k₁ hQ =>
  h.sound s₁ Q E k₁ fun s₂ k₂ => hQ _ s₂ k₂ rfl

theorem Ev.ite {t x y : Expr} {pos : Pos} {b : Bool} {p : PV} (ht : Tr prog w A env s t b) (hx : b = true → Ev prog w A env bad s x p) (hy : b = false → Ev prog w A env bad s y p) :
    Ev prog w A env bad s (.IfExp t x y pos) p := fun s₁ Q E k₁ hQ =>
  wpAny_IfExp (ht s₁ _ _ k₁ fun s₂ k₂ => by
    cases b with
    | true => exact hx rfl s₂ Q E (k₁.trans k₂) fun v s₃ k₃ r => hQ v s₃ (k₂.trans k₃) r
    | false => exact hy rfl s₂ Q E (k₁.trans k₂) fun v s₃ k₃ r => hQ v s₃ (k₂.trans k₃) r)

-- ints
theorem BinR.add {a b : Int} : BinR prog w A bad .Add (.int a) (.int b) (.int (a + b)) := fun s v u _ rv ru Q E hQ => by
  obtain ⟨t, rfl⟩ := rv; obtain ⟨t', rfl⟩ := ru
  exact wpAny_add_int (hQ _ _ (Kp.toks _ _) ⟨_, rfl⟩)
theorem BinR.sub {a b : Int} : BinR prog w A bad .Sub (.int a) (.int b) (.int (a - b)) := fun s v u _ rv ru Q E hQ => by
  obtain ⟨t, rfl⟩ := rv; obtain ⟨t', rfl⟩ := ru
  exact PyProof.Rows.sub_int (hQ _ _ (Kp.toks _ _) ⟨_, rfl⟩)
theorem BinR.mod {a b : Int} (hb : b ≠ 0) : BinR prog w A bad .Mod (.int a) (.int b) (.int (a.fmod b)) := fun s v u _ rv ru Q E hQ => by
  obtain ⟨t, rfl⟩ := rv; obtain ⟨t', rfl⟩ := ru
  exact PyProof.Rows.mod_int hb (hQ _ _ (Kp.toks _ _) ⟨_, rfl⟩)

/-- an int of the size that these laws know -/
def Sm (a : Int) : Prop := a.natAbs < 2 ^ 4000
theorem Sm.bits {a : Int} (h : Sm a) : Builtin.Int.intBits a ≤ 4000 := by
  unfold Builtin.Int.intBits
  split
  · omega
  · rename_i h0
    have h1 : a.natAbs ≠ 0 := by intro e; apply h0; simp [Int.natAbs_eq_zero.mp e]
    have := (Nat.log2_lt h1).mpr h
    omega
theorem Sm.mulOk {a b : Int} (ha : Sm a) (hb : Sm b) : IntMulOk a b := by
  have h1 := ha.bits
  have h2 := hb.bits
  unfold IntMulOk
  have : Builtin.Int.intTooBig (Builtin.Int.intBits a + Builtin.Int.intBits b) = false := by
    unfold Builtin.Int.intTooBig bitsLine
    apply decide_eq_false
    omega
  rw [this]; simp
theorem BinR.mul {a b : Int} (ha : Sm a) (hb : Sm b) : BinR prog w A bad .Mult (.int a) (.int b) (.int (a * b)) := fun s v u _ rv ru Q E hQ => by
  obtain ⟨t, rfl⟩ := rv; obtain ⟨t', rfl⟩ := ru
  exact mul_int (hQ _ _ (Kp.toks _ _) ⟨_, rfl⟩) (ha.mulOk hb)
theorem Sm.noPylong {a b : Int} (hb : Sm b) : Builtin.divisionGoesByPylong a b = false := by
  refine PyProof.noPylong_of_log2 ?_
  by_cases h0 : b.natAbs = 0
  · rw [h0]; decide
  · have := (Nat.log2_lt h0).mpr hb
    omega
theorem BinR.fdiv {a b : Int} (hb : b ≠ 0) (h : Sm b) : BinR prog w A bad .FloorDiv (.int a) (.int b) (.int (a.fdiv b)) := fun s v u _ rv ru Q E hQ => by
  obtain ⟨t, rfl⟩ := rv; obtain ⟨t', rfl⟩ := ru
  exact floordiv_int hb (hQ _ _ (Kp.toks _ _) ⟨_, rfl⟩) (Or.inl h.noPylong)

theorem CmpR.eq {a b : Int} : CmpR prog w A .Eq (.int a) (.int b) (.bool (a == b)) := fun s v u rv ru Q E hQ => by
  obtain ⟨t, rfl⟩ := rv; obtain ⟨t', rfl⟩ := ru
  exact PyProof.Rows.eq_int (hQ _ _ (Kp.refl _) rfl)
theorem CmpR.ne {a b : Int} : CmpR prog w A .NotEq (.int a) (.int b) (.bool (a != b)) := fun s v u rv ru Q E hQ => by
  obtain ⟨t, rfl⟩ := rv; obtain ⟨t', rfl⟩ := ru
  exact PyProof.Rows.ne_int (hQ _ _ (Kp.refl _) rfl)
theorem CmpR.lt {a b : Int} : CmpR prog w A .Lt (.int a) (.int b) (.bool (decide (a < b))) := fun s v u rv ru Q E hQ => by
  obtain ⟨t, rfl⟩ := rv; obtain ⟨t', rfl⟩ := ru
  exact PyProof.Rows.lt_int (hQ _ _ (Kp.refl _) rfl)
theorem CmpR.gt {a b : Int} : CmpR prog w A .Gt (.int a) (.int b) (.bool (decide (b < a))) := fun s v u rv ru Q E hQ => by
  obtain ⟨t, rfl⟩ := rv; obtain ⟨t', rfl⟩ := ru
  exact PyProof.Rows.gt_int (hQ _ _ (Kp.refl _) rfl)

theorem TruR.bool {b : Bool} : TruR prog w A (.bool b) b := fun s v Q E rv hQ => by
  obtain rfl : v = .bool b := rv
  exact wpAny_truthy_bool (hQ _ (Kp.refl _))
theorem TruR.int {a : Int} : TruR prog w A (.int a) (a != 0) := fun s v Q E rv hQ => by
  obtain ⟨t, rfl⟩ := rv
  exact PyProof.Rows.truthy_int (hQ _ (Kp.refl _))

-- bytes
theorem BinR.cat {a b : List UInt8} (h : a.length + b.length ≤ 16777216) : BinR prog w A bad .Add (.bytes a) (.bytes b) (.bytes (a ++ b)) := fun s v u _ rv ru Q E hQ => by
  obtain ⟨t, rfl⟩ := rv; obtain ⟨t', rfl⟩ := ru
  exact PySem.W.bytes_add_K (by simpa using h) rfl fun t' k => hQ _ _ (Kp.toks _ _) ⟨_, rfl⟩
theorem CmpR.eqB {a b : List UInt8} : CmpR prog w A .Eq (.bytes a) (.bytes b) (.bool (a == b)) := fun s v u rv ru Q E hQ => by
  obtain ⟨t, rfl⟩ := rv; obtain ⟨t', rfl⟩ := ru
  exact PySem.W.eq_bytes (hQ _ _ (Kp.refl _) rfl)
theorem CmpR.neB {a b : List UInt8} : CmpR prog w A .NotEq (.bytes a) (.bytes b) (.bool (a != b)) := fun s v u rv ru Q E hQ => by
  obtain ⟨t, rfl⟩ := rv; obtain ⟨t', rfl⟩ := ru
  exact PySem.W.ne_bytes (hQ _ _ (Kp.refl _) rfl)
end
end B58

namespace B58

/-- the text's top: names with their values, objects -/
structure Dt where
  names : List (Str × Value)
  objs : List (Addr × Obj)

/-- what the text's top gives, in a heap -/
structure GF (h : Heap) (D : Dt) : Prop where
  nolimit : h.NoLimit
  look : ∃ mg mb, h.Ns mainGlobals mg ∧ h.Ns builtinsNs mb ∧ ∀ x v, D.names.lookup x = some v → mg x = some v ∨ (mg x = none ∧ mb x = some v)
  objs : ∀ p, p ∈ D.objs → h.get? p.1 = some p.2
theorem GF.up {h h' : Heap} {D : Dt} (g : GF h D) (k : ∀ b o, h.get? b = some o → h'.get? b = some o) : GF h' D :=
  ⟨g.nolimit.keeps k, let ⟨mg, mb, a, b, c⟩ := g.look; ⟨mg, mb, a.keeps k, b.keeps k, c⟩, fun p hp => k _ _ (g.objs p hp)⟩

/-- where an expression is walked: the frame, the top, the names that are known -/
structure Cx (prog : Program) (w : World) (A : Around) (env : Env) (s : Shared) (D : Dt) (σ : List (Str × PV)) : Prop where
  hh : A.handled = none
  kind : env.scope.kind = .function
  glob : env.globals = mainGlobals
  bi : env.builtins = builtinsNs
  gf : GF s.heap D
  names : ∀ x p, σ.lookup x = some p → ∀ pos, Ev prog w A env [] s (.Name x pos) p
  cells : ∀ y p, σ.lookup y = some p → env.kindOf y = some .cell → ∃ c v, env.cells.lookup y = some c ∧ s.heap.IsCell c (some v) ∧ Rep prog w [] s.heap v p

section
variable {prog : Program} {w : World} {A : Around} {env : Env} {bad : List Addr} {s s' : Shared} {D : Dt} {σ : List (Str × PV)}

theorem Cx.up (C : Cx prog w A env s D σ) (k : Hx s s') : Cx prog w A env s' D σ := ⟨C.hh, C.kind, C.glob, C.bi, C.gf.up k.get, fun x p h pos => (C.names x p h pos).up k, fun y p h hk => let ⟨c, v, a, i, r⟩ := C.cells y p h hk; ⟨c, v, a, i.keeps k.get, r.up k.get⟩⟩

theorem Ev.name (C : Cx prog w A env s D σ) {x : Str} {pos : Pos} {p : PV} (h : σ.lookup x = some p) (hp : p.flat = true) : Ev prog w A env bad s (.Name x pos) p := (C.names x p h pos).flat hp
theorem Ev.name0 (C : Cx prog w A env s D σ) {x : Str} {pos : Pos} {p : PV} (h : σ.lookup x = some p) : Ev prog w A env [] s (.Name x pos) p := C.names x p h pos

theorem gname (C : Cx prog w A env s D σ) {x : Str} {v : Value} (hk : env.kindOf x = some .globalImplicit) (hD : D.names.lookup x = some v) (hd : (x == ("__debug__" : Str)) = false) {s₁ : Shared} {Q : Value → Shared → Prop} {E : Value → Shared → Prop} {pos : Pos}
    (k : Hx s s₁) (h : Q v s₁) : wpAny (model prog w) A (eval (.Name x pos) env) Q E s₁ := by
  have g := C.gf.up k.get
  obtain ⟨mg, mb, a, b, c⟩ := g.look
  rcases c x v hD with e | ⟨e, e'⟩
  · exact Name_function_global C.kind hk (loadGlobal_global (C.glob ▸ a) e h) hd
  · exact Name_function_global C.kind hk (loadGlobal_builtin (C.glob ▸ a) e (C.bi ▸ b) e' h) hd

theorem Rep.newList {s : Shared} {vs : List Value} {is : List Int} (hb : Live bad s) (hI : IntsAre vs is) :
    Rep prog w bad (s.heap.push { cls := .type "list", data := .seq vs.toArray }) (.ref s.heap.objs.size) (.list is) := ⟨_, vs, rfl, hb.fresh, ⟨_, Heap.get?_push_size _ rfl⟩, hI⟩
theorem Rep.newTup {s : Shared} {vs : List Value} {is : List Int} (hI : IntsAre vs is) :
    Rep prog w bad (s.heap.push { cls := .type "tuple", data := .seq vs.toArray }) (.ref s.heap.objs.size) (.tup is) := ⟨_, vs, rfl, ⟨_, Heap.get?_push_size _ rfl, rfl, _, rfl⟩, hI⟩

-- subscripts
theorem wp_sub {value slice : Expr} {pos : Pos} {Q : Value → Shared → Prop} {E : Value → Shared → Prop}
    (h : wpAny (model prog w) A (eval value env) (fun o s₁ => wpAny (model prog w) A (eval slice env) (fun i s₂ => ∃ T id, typeLookup (.type T) "__getitem__" = pure (some (.builtin id)) ∧ s₂.TypeIs o T ∧ wpAny (model prog w) A (getItem o i) Q E s₂) E s₁) E s) :
    wpAny (model prog w) A (eval (.Subscript value slice pos) env) Q E s := by
  rw [eval_Subscript]
  refine wpAny_bind (wpAny_mono h (fun o s₁ h₁ => wpAny_bind (wpAny_holding (wpAny_mono h₁ (fun i s₂ h₂ => wpAny_bind (wpAny_standAt ?_)) fun _ _ x => x))) fun _ _ x => x)
  obtain ⟨T, id, hl, hT, h₂⟩ := h₂
  refine wpAny_bind ?_
  rw [getitemInPython_of_ne hT.not_modules]
  refine wpAny_bind (wpAny_specialOf hT hl ?_)
  have fin : ∀ vs, wpAny (model prog w) A (operate vs (getItem o i)) (fun r s₃ => wpAny (model prog w) A (letTemporaryGo value o r >>= fun _ => pure r) Q E s₃) E s₂ := fun vs =>
    wpAny_operating (wpAny_mono h₂ (fun r s₃ h₃ => wpAny_bind (wpAny_letTemporaryGo (wpAny_pure h₃))) fun _ _ x => x)
  refine wpAny_pure (wpAny_bind ?_)
  unfold subscripted
  split
  · exact fin _
  · rename_i he; cases he
  · exact fin _

/-- an item of a value -/
def ItemR (prog : Program) (w : World) (A : Around) (p q r : PV) : Prop :=
  ∀ (s : Shared) (v u : Value) (Q : Value → Shared → Prop) (E : Value → Shared → Prop), Rep prog w [] s.heap v p → Rep prog w [] s.heap u q → (∀ x s₂, Kp s s₂ → Rep prog w [] s₂.heap x r → Q x s₂) →
    ∃ T id, typeLookup (.type T) "__getitem__" = pure (some (.builtin id)) ∧ s.TypeIs v T ∧ wpAny (model prog w) A (getItem v u) Q E s

theorem Ev.item {e i : Expr} {pos : Pos} {p q r : PV} (he : Ev prog w A env [] s e p) (hi : Ev prog w A env [] s i q) (hr : ItemR prog w A p q r) (hf : r.flat = true) : Ev prog w A env bad s (.Subscript e i pos) r :=
  fun s₁ Q E k₁ hQ => wp_sub (he s₁ _ _ k₁ fun v s₂ k₂ rv => hi s₂ _ _ (k₁.trans k₂) fun u s₃ k₃ ru =>
    hr s₃ v u Q E (rv.up k₃.get) ru fun x s₄ k₄ rx => hQ x s₄ ((k₂.trans k₃).trans k₄) (rx.flat hf))

theorem ints_at {vs : List Value} {ns : List Int} (h : IntsAre vs ns) {i : Nat} {n : Int} (e : ns[i]? = some n) : ∃ t, vs[i]? = some (.int n t) := h.get i n e

theorem ItemR.list {is : List Int} {i n : Int} (h0 : 0 ≤ i) (hl : (is.length : Int) < 2 ^ 63) (e : is[i.toNat]? = some n) : ItemR prog w A (.list is) (.int i) (.int n) := fun s v u Q E rv ru hQ => by
  obtain ⟨a, vs, rfl, _, hL, hI⟩ := rv
  replace hL := hL.isList
  obtain ⟨t, rfl⟩ := ru
  obtain ⟨t', et⟩ := ints_at hI e
  have hlt : i.toNat < is.length := by
    rcases Nat.lt_or_ge i.toNat is.length with h | h
    · exact h
    · rw [List.getElem?_eq_none h] at e; cases e
  exact ⟨"list", _, slot_list_getitem.lookup, hL.typeIs, wpAny_getItem_list hL h0 (by omega) (by simpa using et) (hQ _ _ (Kp.refl _) ⟨_, rfl⟩)⟩
theorem ItemR.ilist {is : List Int} {i n : Int} (h0 : 0 ≤ i) (hl : (is.length : Int) < 2 ^ 63) (e : is[i.toNat]? = some n) : ItemR prog w A (.ilist is) (.int i) (.int n) := fun s v u Q E rv ru hQ => by
  obtain ⟨a, vs, rfl, hL, hI⟩ := rv
  obtain ⟨t, rfl⟩ := ru
  obtain ⟨t', et⟩ := ints_at hI e
  have hlt : i.toNat < is.length := by
    rcases Nat.lt_or_ge i.toNat is.length with h | h
    · exact h
    · rw [List.getElem?_eq_none h] at e; cases e
  exact ⟨"list", _, slot_list_getitem.lookup, hL.typeIs, wpAny_getItem_list hL h0 (by omega) (by simpa using et) (hQ _ _ (Kp.refl _) ⟨_, rfl⟩)⟩
theorem ItemR.listN {is : List Int} {i n : Int} (h0 : i < 0) (h1 : -(is.length : Int) ≤ i) (hl : (is.length : Int) < 2 ^ 63) (e : is[(i + is.length).toNat]? = some n) : ItemR prog w A (.list is) (.int i) (.int n) := fun s v u Q E rv ru hQ => by
  obtain ⟨a, vs, rfl, _, hL, hI⟩ := rv
  replace hL := hL.isList
  obtain ⟨t, rfl⟩ := ru
  obtain ⟨t', et⟩ := ints_at hI e
  have hz := hI.length
  exact ⟨"list", _, slot_list_getitem.lookup, hL.typeIs, wpAny_getItem_list_neg hL h0 (by simp [hz]; omega) (by omega) (by simpa [hz] using et) (hQ _ _ (Kp.refl _) ⟨_, rfl⟩)⟩
theorem ItemR.bytes {b : List UInt8} {i : Int} {n : UInt8} (h0 : 0 ≤ i) (hl : b.length ≤ 1099511627776) (e : b[i.toNat]? = some n) : ItemR prog w A (.bytes b) (.int i) (.int n.toNat) := fun s v u Q E rv ru hQ => by
  obtain ⟨t, rfl⟩ := rv
  obtain ⟨t', rfl⟩ := ru
  have hlt : i.toNat < b.length := by
    rcases Nat.lt_or_ge i.toNat b.length with h | h
    · exact h
    · rw [List.getElem?_eq_none h] at e; cases e
  refine ⟨"bytes", _, PySem.W.FB.slot_bytes_getitem.lookup, PySem.W.typeIs_bytes _ _ _, PySem.W.getItem_bytes hl h0 (by omega) (hQ _ _ (Kp.toks _ _) ⟨s.toks, ?_⟩)⟩
  rw [List.getD_eq_getElem?_getD, e]; rfl
theorem ItemR.dict {f : Int → Option Int} {i n : Int} (e : f i = some n) : ItemR prog w A (.dict f) (.int i) (.int n) := fun s v u Q E rv ru hQ => by
  obtain ⟨d, kvs, rfl, _, hs, hd, hf⟩ := rv
  obtain ⟨t, rfl⟩ := ru
  have h := hf i
  rw [e] at h
  obtain ⟨t', h⟩ := h
  exact ⟨"dict", _, slot_dict_getitem.lookup, hd.typeIs, wpAny_getItem_of (intKind_is prog w i t) hd.mapOf h (hQ _ _ (Kp.toks _ _) ⟨_, rfl⟩)⟩
theorem ItemR.tup {is : List Int} {i n : Int} (h0 : 0 ≤ i) (hl : (is.length : Int) < 2 ^ 63) (e : is[i.toNat]? = some n) : ItemR prog w A (.tup is) (.int i) (.int n) := fun s v u Q E rv ru hQ => by
  obtain ⟨a, vs, rfl, hL, hI⟩ := rv
  obtain ⟨t, rfl⟩ := ru
  obtain ⟨t', et⟩ := ints_at hI e
  have hz := hI.length
  have hlt : i.toNat < is.length := by
    rcases Nat.lt_or_ge i.toNat is.length with h | h
    · exact h
    · rw [List.getElem?_eq_none h] at e; cases e
  refine ⟨"tuple", _, slot_tuple_getitem.lookup, ?_, ?_⟩
  · obtain ⟨o, ho, hc, _⟩ := hL; exact ⟨o, ho, hc⟩
  · refine PyProof.Rows.getItem_tuple hL (by omega) (by omega) (j := i.toNat) ?_ (by simpa using et) (hQ _ _ (Kp.refl _) ⟨_, rfl⟩)
    have h2 : i < (vs.length : Int) := by omega
    have h3 : ¬ i < 0 := by omega
    simp [seqIndex?, h0, h2, h3]

/-- a cut of a list by two places as Python clips them -/
def cut {α : Type} (xs : List α) (lo hi : Option Int) : List α := (xs.drop (lo.elim 0 (clipAt xs.length))).take (hi.elim xs.length (clipAt xs.length) - lo.elim 0 (clipAt xs.length))

/-- a part of a slice: nothing, or an int -/
inductive Part (prog : Program) (w : World) (A : Around) (env : Env) (s : Shared) : Option Expr → Option Int → Prop
  | none : Part prog w A env s none none
  | some {e i} : Ev prog w A env [] s e (.int i) → Part prog w A env s (some e) (some i)

theorem Part.sound {e : Option Expr} {i : Option Int} (h : Part prog w A env s e i) (s₁ : Shared) (Q : Value → Shared → Prop) (E : Value → Shared → Prop) (k : Hx s s₁) (hQ : ∀ v s₂, Kp s₁ s₂ → IsPart v i → Q v s₂) :
    wpAny (model prog w) A (evalPart e env) Q E s₁ := by
  cases h with
  | none => rw [evalPart_none]; exact wpAny_pure (hQ _ _ (Kp.refl _) .none)
  | some he => rw [evalPart_some]; exact he s₁ _ _ k fun v s₂ k₂ ⟨t, e⟩ => by subst e; exact hQ _ _ k₂ (.int _ _)

theorem wp_slice {e : Expr} {lo hi : Option Expr} {p pos : Pos} {l u : Option Int} {P : PV} {Q : Value → Shared → Prop} {E : Value → Shared → Prop}
    (he : Ev prog w A env [] s e P) (hl : Part prog w A env s lo l) (hu : Part prog w A env s hi u) {s₁ : Shared} (k₁ : Hx s s₁)
    (hQ : ∀ o s₂ vl vu, Kp s₁ s₂ → Rep prog w [] s₂.heap o P → IsPart vl l → IsPart vu u →
      ∃ T id, typeLookup (.type T) "__getitem__" = pure (some (.builtin id)) ∧ ({ s₂ with heap := s₂.heap.push { cls := .type "slice", data := .fields #[vl, vu, .none] } } : Shared).TypeIs o T ∧
        wpAny (model prog w) A (getItem o (.ref s₂.heap.objs.size)) Q E { s₂ with heap := s₂.heap.push { cls := .type "slice", data := .fields #[vl, vu, .none] } }) :
    wpAny (model prog w) A (eval (.Subscript e (.Slice lo hi none p) pos) env) Q E s₁ :=
  wp_sub (he s₁ _ _ k₁ fun o s₂ k₂ ro => wpAny_Slice (hl.sound s₂ _ _ (k₁.trans k₂) fun vl s₃ k₃ pl => hu.sound s₃ _ _ ((k₁.trans k₂).trans k₃) fun vu s₄ k₄ pu => by
    rw [evalPart_none]
    exact wpAny_pure (hQ o s₄ vl vu ((k₂.trans k₃).trans k₄) ((ro.up k₃.get).up k₄.get) pl pu)))

theorem Ev.cutB {e : Expr} {lo hi : Option Expr} {p pos : Pos} {l u : Option Int} {b : List UInt8} (he : Ev prog w A env [] s e (.bytes b)) (hl : Part prog w A env s lo l) (hu : Part prog w A env s hi u)
    (hz : b.length ≤ 16777216) : Ev prog w A env bad s (.Subscript e (.Slice lo hi none p) pos) (.bytes (cut b l u)) := fun s₁ Q E k₁ hQ =>
  wp_slice he hl hu k₁ fun o s₂ vl vu k₂ ro pl pu => by
    obtain ⟨t, rfl⟩ := ro
    refine ⟨"bytes", _, PySem.W.FB.slot_bytes_getitem.lookup, PySem.W.typeIs_bytes _ _ _, getItem_meets (PySem.W.typeIs_bytes _ _ _) (by decide) PySem.W.FB.slot_bytes_getitem PySem.W.FB.entry_bytes_getitem (PySem.W.FB.args_bytes_getitem_2 _ _) (PySem.W.KBc.meets_slice2 b.toArray t _ pl pu)
      ⟨Heap.IsSliceOf.new _ _ _ _, Nat.le_trans (PySem.W.KBc.size_picked_le _ l u) (by rw [sizeLine_eq]; simpa using hz), fun t' k => hQ _ _ (k₂.trans (Kp.push _ _ _)) ⟨t', ?_⟩⟩⟩
    rw [PySem.W.KBc.picked_eq]; simp [cut]

theorem slicePick_cut (vs : List Value) (l u : Option Int) : slicePick vs.toArray l u none = (cut vs l u).toArray := by
  rw [slicePick_plain]; simp [cut]
theorem IntsAre.cut {vs : List Value} {ns : List Int} (h : IntsAre vs ns) (l u : Option Int) : IntsAre (cut vs l u) (B58.cut ns l u) := by
  unfold B58.cut
  rw [h.length]
  exact (h.drop _).take _

theorem Ev.cutL {e : Expr} {lo hi : Option Expr} {p pos : Pos} {l u : Option Int} {is : List Int} (he : Ev prog w A env [] s e (.list is)) (hl : Part prog w A env s lo l) (hu : Part prog w A env s hi u)
    (hz : is.length ≤ 16777216) (hb : Live bad s) : Ev prog w A env bad s (.Subscript e (.Slice lo hi none p) pos) (.list (cut is l u)) := fun s₁ Q E k₁ hQ =>
  wp_slice he hl hu k₁ fun o s₂ vl vu k₂ ro pl pu => by
    obtain ⟨a, vs, rfl, _, hL, hI⟩ := ro
    replace hL := hL.isList
    refine ⟨"list", _, slot_list_getitem.lookup, (hL.push _).typeIs, wpAny_getItem_list_slice (hL.push _) (Heap.IsSliceOf.new ..) pl pu .none (by simp) ?_ (by simp only [List.size_toArray, hI.length, sizeLine_eq]; exact hz)⟩
    have k₃ : Kp s₂ { s₂ with heap := s₂.heap.push { cls := .type "slice", data := .fields #[vl, vu, .none] } } := Kp.push _ _ _
    rw [slicePick_cut]
    exact hQ _ _ ((k₂.trans k₃).trans (Kp.push _ _ _)) (Rep.newList (hb.up (k₁.trans (k₂.trans k₃))) (IntsAre.cut hI l u))
end
end B58

namespace B58

section
variable {prog : Program} {w : World} {A : Around} {env : Env} {bad : List Addr} {s s' : Shared} {D : Dt} {σ : List (Str × PV)}

theorem BinR.catL {a b : List Int} (h : a.length + b.length ≤ 16777216) : BinR prog w A bad .Add (.list a) (.list b) (.list (a ++ b)) := fun s v u hb rv ru Q E hQ => by
  obtain ⟨l, vs, rfl, _, hl, hi⟩ := rv
  replace hl := hl.isList
  obtain ⟨l', ws, rfl, _, hl', hi'⟩ := ru
  replace hl' := hl'.isList
  obtain ⟨⟨cls, dd, data, sl⟩, ho, hc, n, hd⟩ := id hl
  obtain ⟨⟨cls2, dd2, data2, sl2⟩, ho2, hc2, n2, hd2⟩ := id hl'
  simp only at hc hd hc2 hd2
  subst hc hd hc2 hd2
  have e : vs.toArray ++ ws.toArray = (vs ++ ws).toArray := by simp
  have hz : vs.toArray.size + ws.toArray.size ≤ sizeLine := by rw [sizeLine_eq]; simp [hi.length, hi'.length]; exact h
  refine concat_meets ⟨_, ho, rfl⟩ ⟨_, ho2, rfl⟩ noFill_list_add seq_list_add PySem.F.slot_list_add PySem.F.entry_list_add (PySem.F.args_list_add_2 _ _) (list_addW l l' vs.toArray ws.toArray n n2 dd dd2 sl sl2 hz) ⟨ho, ho2, ?_⟩
  rw [e]
  exact hQ _ _ (Kp.push _ _ _) (Rep.newList hb (hi.append hi'))

theorem IntsAre.rep {vs : List Value} {ns : List Int} (h : IntsAre vs ns) : ∀ k : Nat, IntsAre (List.replicate k vs).flatten (List.replicate k ns).flatten
  | 0 => .nil
  | k + 1 => by simp only [List.replicate_succ, List.flatten_cons]; exact h.append (IntsAre.rep h k)

theorem BinR.repL {a : List Int} {x : Int} (hlo : -(2 ^ 63 : Int) ≤ x) (hhi : x < 2 ^ 63) (h : a.length * x.toNat ≤ 16777216) :
    BinR prog w A bad .Mult (.list a) (.int x) (.list (List.replicate x.toNat a).flatten) := fun s v u' hb rv ru Q E hQ => by
  obtain ⟨l, vs, rfl, _, hl, hi⟩ := rv
  replace hl := hl.isList
  obtain ⟨u, rfl⟩ := ru
  obtain ⟨⟨cls, d, data, sl⟩, ho, hcl, k, hd⟩ := id hl
  simp only at hcl hd
  subst hcl hd
  have hsz' : vs.toArray.size * x.toNat ≤ 2 ^ 24 := by simpa [hi.length] using h
  refine wpAny_binaryOp_repeat_ref (T := "list") (U := "int") (by decide) ⟨_, ho, rfl⟩ (fun s' => typeIs_int s' x u) noFill_list_mul PySem.F.fills_int_mul PySem.F.slot_int_rmul repeat_list PySem.F.slot_int_index.lookup
    (call_meets PySem.F.slot_int_rmul (typeIs_int s x u) PySem.F.entry_int_rmul (PySem.F.args_int_rmul_2 _ _) (lm_int_rmul_list_any x u l vs.toArray k d sl)
      ⟨ho, rfl, ⟨_, ho, rfl⟩, call_meets PySem.F.slot_list_mul ⟨_, ho, rfl⟩ PySem.F.entry_list_mul (PySem.F.args_list_mul_2 _ _)
        (lm_list_mul_any l vs.toArray k d sl x u (by simp [Builtin.List.listFitsIndex]; omega) (by omega) (by simp [Builtin.List.listTooLong, sizeLine]; omega))
        ⟨ho, ?_⟩⟩)
  rw [listMul_foldl_if]
  exact hQ _ _ (Kp.push _ _ _) (Rep.newList hb (IntsAre.rep hi _))

theorem BinR.repB {b : List UInt8} {n : Int} (hb : b ≠ []) (hlo : -1048576 ≤ n) (hn : n ≤ 1048576) (hs : b.length ≤ 16) : BinR prog w A bad .Mult (.bytes b) (.int n) (.bytes (List.replicate n.toNat b).flatten) := fun s v u _ rv ru Q E hQ => by
  obtain ⟨t, rfl⟩ := rv; obtain ⟨t', rfl⟩ := ru
  exact PySem.W.bytes_mul_any hb hlo hn hs fun t' k => hQ _ _ (Kp.toks _ _) ⟨_, rfl⟩

theorem BinR.pow {a b : Int} (hb : 0 ≤ b) (ha : a.natAbs < 2 ^ 60) (hb' : b ≤ 100) : BinR prog w A bad .Pow (.int a) (.int b) (.int (a ^ b.toNat)) := fun s v u _ rv ru Q E hQ => by
  obtain ⟨t, rfl⟩ := rv; obtain ⟨t', rfl⟩ := ru
  refine AutoIntOpsIf.pow ?_
  rw [if_pos hb]
  by_cases h0 : b = 0
  · subst h0
    rw [if_pos (by rfl)]
    exact hQ _ _ (Kp.toks _ _) ⟨_, by simp; rfl⟩
  rw [if_neg (by simpa using h0)]
  by_cases h1 : (a == 0 || a == 1) = true
  · rw [if_pos h1]
    refine hQ _ _ (Kp.toks _ _) ⟨s.toks, ?_⟩
    have : a ^ b.toNat = a := by
      have hb1 : 1 ≤ b.toNat := by omega
      obtain ⟨k, hk⟩ : ∃ k, b.toNat = k + 1 := ⟨b.toNat - 1, by omega⟩
      rw [hk]
      simp only [Bool.or_eq_true, beq_iff_eq] at h1
      rcases h1 with rfl | rfl
      · simp [Int.pow_succ]
      · exact Int.one_pow
    rw [this]
  rw [if_neg h1]
  by_cases h2 : (a == -1) = true
  · rw [if_pos h2]
    refine hQ _ _ (Kp.toks _ _) ⟨s.toks, ?_⟩
    congr 1
    have h2' : a = -1 := by simpa using h2
    subst h2'
    have key : ∀ n : Nat, ((-1 : Int)) ^ n = if n % 2 = 0 then 1 else -1 := by
      intro n
      induction n with
      | zero => rfl
      | succ k ih =>
        rw [Int.pow_succ, ih]
        by_cases e : k % 2 = 0
        · rw [if_pos e, if_neg (by omega)]; rfl
        · rw [if_neg e, if_pos (by omega)]; rfl
    rw [key]
    by_cases e : b % 2 = 0
    · rw [if_pos (by simpa using e), if_pos (by omega)]
    · rw [if_neg (by simpa using e), if_neg (by omega)]
  rw [if_neg h2]
  have hbits : Builtin.Int.intBits a ≤ 60 := by
    unfold Builtin.Int.intBits
    split
    · omega
    · rename_i h0
      have h1 : a.natAbs ≠ 0 := by intro e; apply h0; simp [Int.natAbs_eq_zero.mp e]
      have := (Nat.log2_lt h1).mpr ha
      omega
  rw [if_neg (by
    have h3 : ((Builtin.Int.intBits a : Nat) : Int) * b ≤ 60 * 100 := Int.mul_le_mul (by omega) hb' hb (by omega)
    unfold Builtin.Int.intTooBig bitsLine
    simp; omega)]
  exact hQ _ _ (Kp.toks _ _) ⟨_, rfl⟩

-- displays of ints
/-- exprs that are ints -/
inductive EvInts (prog : Program) (w : World) (A : Around) (env : Env) (s : Shared) : List Expr → List Int → Prop
  | nil : EvInts prog w A env s [] []
  | cons {e es i is} : Ev prog w A env [] s e (.int i) → starEach (e :: es) env = (false, eval e env) :: starEach es env → EvInts prog w A env s es is → EvInts prog w A env s (e :: es) (i :: is)

theorem EvInts.sound {es : List Expr} {is : List Int} (h : EvInts prog w A env s es is) {pos : Pos} : ∀ (s₁ : Shared) (Q : List Value → Shared → Prop) (E : Value → Shared → Prop), Hx s s₁ → (∀ vs s₂, Kp s₁ s₂ → IntsAre vs is → Q vs s₂) →
    wpAny (model prog w) A (spliced (backTo pos (starEach es env))) Q E s₁ := by
  induction h with
  | nil => intro s₁ Q E k hQ; exact wpAny_items_nil (hQ _ _ (Kp.refl _) .nil)
  | cons he hs _ ih =>
    intro s₁ Q E k hQ
    refine wpAny_items_cons (he s₁ _ _ k fun v s₂ k₂ ⟨t, e⟩ => ih s₂ _ _ (k.trans k₂) fun vs s₃ k₃ hv => ?_) hs
    subst e
    exact hQ _ s₃ (k₂.trans k₃) (.cons _ t hv)
theorem EvInts.len {es : List Expr} {is : List Int} (h : EvInts prog w A env s es is) : is.length = es.length := by
  induction h with
  | nil => rfl
  | cons _ _ _ ih => simp [ih]

theorem Ev.list {es : List Expr} {is : List Int} {pos : Pos} (h : EvInts prog w A env s es is) (hz : es.length ≤ 1000) (hb : Live bad s) : Ev prog w A env bad s (.List es pos) (.list is) := fun s₁ Q E k₁ hQ =>
  wpAny_List (h.sound s₁ _ _ k₁ fun vs s₂ k₂ hv => ⟨by rw [hv.length, h.len, sizeLine_eq]; omega, hQ _ _ (k₂.trans (Kp.push _ _ _)) (Rep.newList (hb.up (k₁.trans k₂)) hv)⟩)
theorem Ev.tup {es : List Expr} {is : List Int} {k : Nat} {pos : Pos} (h : EvInts prog w A env s es is) (hz : es.length ≤ 1000) : Ev prog w A env bad s (.Tuple es k pos) (.tup is) := fun s₁ Q E k₁ hQ =>
  wpAny_Tuple (h.sound s₁ _ _ k₁ fun vs s₂ k₂ hv => ⟨by rw [hv.length, h.len, sizeLine_eq]; omega, hQ _ _ (k₂.trans (Kp.push _ _ _)) (Rep.newTup hv)⟩)

-- arguments
inductive Reps (prog : Program) (w : World) (bad : List Addr) (h : Heap) : List Value → List PV → Prop
  | nil : Reps prog w bad h [] []
  | cons {v vs p ps} : Rep prog w bad h v p → Reps prog w bad h vs ps → Reps prog w bad h (v :: vs) (p :: ps)
theorem Reps.up {h h' : Heap} {vs : List Value} {ps : List PV} (r : Reps prog w bad h vs ps) (hk : ∀ b o, h.get? b = some o → h'.get? b = some o) : Reps prog w bad h' vs ps := by
  induction r with
  | nil => exact .nil
  | cons r _ ih => exact .cons (r.up hk) ih

inductive EvArgs (prog : Program) (w : World) (A : Around) (env : Env) (s : Shared) : List Expr → List PV → Prop
  | nil : EvArgs prog w A env s [] []
  | cons {e es p ps} : Ev prog w A env [] s e p → starEach (e :: es) env = (false, eval e env) :: starEach es env → EvArgs prog w A env s es ps → EvArgs prog w A env s (e :: es) (p :: ps)

theorem EvArgs.sound {es : List Expr} {ps : List PV} (h : EvArgs prog w A env s es ps) {pos : Pos} : ∀ (s₁ : Shared) (Q : List Value → Shared → Prop) (E : Value → Shared → Prop), Hx s s₁ → (∀ vs s₂, Kp s₁ s₂ → Reps prog w [] s₂.heap vs ps → Q vs s₂) →
    wpAny (model prog w) A (spliced (backTo pos (starEach es env))) Q E s₁ := by
  induction h with
  | nil => intro s₁ Q E k hQ; exact wpAny_items_nil (hQ _ _ (Kp.refl _) .nil)
  | cons he hs _ ih =>
    intro s₁ Q E k hQ
    refine wpAny_items_cons (he s₁ _ _ k fun v s₂ k₂ r => ih s₂ _ _ (k.trans k₂) fun vs s₃ k₃ hv => ?_) hs
    exact hQ _ s₃ (k₂.trans k₃) (.cons (r.up k₃.get) hv)

/-- a call of a value by pure arguments -/
def CallR (prog : Program) (w : World) (A : Around) (bad : List Addr) (f : Value) (ps : List PV) (r : PV) : Prop :=
  ∀ (s : Shared) (vs : List Value), Live bad s → Reps prog w [] s.heap vs ps → Op prog w A bad s (call f vs) r

theorem no_star {pos : Pos} : ∀ {es : List Expr} {ps : List PV}, EvArgs prog w A env s es ps → (backTo pos (starEach es env)).any (·.1) = false
  | _, _, .nil => rfl
  | _, _, .cons _ he r => by rw [he]; show (false || _) = false; exact no_star r

theorem Ev.callT (C : Cx prog w A env s D σ) {x : Str} {T : String} {np pos : Pos} {e : Expr} {es : List Expr} {ps : List PV} {r : PV} (hk : env.kindOf x = some .globalImplicit) (hD : D.names.lookup x = some (.type T)) (hd : (x == ("__debug__" : Str)) = false)
    (ha : EvArgs prog w A env s (e :: es) ps) (hb : Live bad s) (hc : CallR prog w A bad (.type T) ps r) : Ev prog w A env bad s (.Call (.Name x np) (e :: es) [] pos) r := fun s₁ Q E k₁ hQ =>
  wpAny_Call_NameR (gname C hk hD hd k₁ (PySem.callWith_type (no_star ha) (by
    cases ha with
    | cons he hs hr =>
      have hx : backTo pos (starEach (e :: es) env) = (false, eval e env) :: backTo pos (starEach es env) := by rw [hs]; rfl
      have sp := (EvArgs.cons he hs hr).sound (pos := pos) s₁ (fun vs s' => wpAny (model prog w) A (call (.type T) ([] ++ vs) []) Q E s') E k₁ fun vs s₂ k₂ rv => hc s₂ vs (hb.up (k₁.trans k₂)) rv _ _ fun v s₃ k₃ r₃ => hQ v s₃ (k₂.trans k₃) r₃
      rw [hx] at sp ⊢
      exact evalArgs_plain sp)))
theorem Ev.callB (C : Cx prog w A env s D σ) {x : Str} {T : String} {np pos : Pos} {e : Expr} {es : List Expr} {ps : List PV} {r : PV} (hk : env.kindOf x = some .globalImplicit) (hD : D.names.lookup x = some (.builtin T)) (hd : (x == ("__debug__" : Str)) = false)
    (ha : EvArgs prog w A env s (e :: es) ps) (hb : Live bad s) (hc : CallR prog w A bad (.builtin T) ps r) : Ev prog w A env bad s (.Call (.Name x np) (e :: es) [] pos) r := fun s₁ Q E k₁ hQ =>
  wpAny_Call_NameR (gname C hk hD hd k₁ (callWith_builtin (no_star ha) (by
    cases ha with
    | cons he hs hr =>
      have hx : backTo pos (starEach (e :: es) env) = (false, eval e env) :: backTo pos (starEach es env) := by rw [hs]; rfl
      have sp := (EvArgs.cons he hs hr).sound (pos := pos) s₁ (fun vs s' => wpAny (model prog w) A (call (.builtin T) ([] ++ vs) []) Q E s') E k₁ fun vs s₂ k₂ rv => hc s₂ vs (hb.up (k₁.trans k₂)) rv _ _ fun v s₃ k₃ r₃ => hQ v s₃ (k₂.trans k₃) r₃
      rw [hx] at sp ⊢
      exact evalArgs_plain sp)))

theorem CallR.lenB {b : List UInt8} (h : b.length ≤ 1099511627776) : CallR prog w A bad (.builtin "len") [.bytes b] (.int b.length) := fun s vs _ rv Q E hQ => by
  cases rv with | cons r n => cases n; obtain ⟨t, rfl⟩ := r; exact PySem.W.len_bytes (by simpa using h) (hQ _ _ (Kp.toks _ _) ⟨_, by simp; rfl⟩)
theorem CallR.lenL {is : List Int} (h : (is.length : Int) < 2 ^ 63) : CallR prog w A bad (.builtin "len") [.list is] (.int is.length) := fun s vs _ rv Q E hQ => by
  cases rv with
  | cons r n =>
    cases n; obtain ⟨a, ws, rfl, _, hl, hi⟩ := r
    replace hl := hl.isList
    exact call_len_list hl (by simp [hi.length]; exact h) (hQ _ _ (Kp.toks _ _) ⟨_, by simp [hi.length]; rfl⟩)
theorem CallR.lenI {is : List Int} (h : (is.length : Int) < 2 ^ 63) : CallR prog w A bad (.builtin "len") [.ilist is] (.int is.length) := fun s vs hb rv Q E hQ => by
  cases rv with
  | cons r n =>
    cases n; obtain ⟨a, ws, rfl, hl, hi⟩ := r
    exact call_len_list hl (by simp [hi.length]; exact h) (hQ _ _ (Kp.toks _ _) ⟨_, by simp [hi.length]; rfl⟩)
theorem CallR.range1 {n : Int} : CallR prog w A bad (.type "range") [.int n] (.range 0 n 1) := fun s vs _ rv Q E hQ => by
  cases rv with
  | cons r x => cases x; obtain ⟨t, rfl⟩ := r; exact call_range_1 (hQ _ _ (Kp.push _ _ _) ⟨_, _, _, _, rfl, Heap.get?_push_size _ rfl⟩)
theorem CallR.range2 {a b : Int} : CallR prog w A bad (.type "range") [.int a, .int b] (.range a b 1) := fun s vs _ rv Q E hQ => by
  cases rv with
  | cons r x => cases x with | cons r' y => cases y; obtain ⟨t, rfl⟩ := r; obtain ⟨t', rfl⟩ := r'; exact call_range_2 (hQ _ _ (Kp.push _ _ _) ⟨_, _, _, _, rfl, Heap.get?_push_size _ rfl⟩)
theorem CallR.range3 {a b c : Int} (hc : c ≠ 0) (h : Sm c) : CallR prog w A bad (.type "range") [.int a, .int b, .int c] (.range a b c) := fun s vs _ rv Q E hQ => by
  cases rv with
  | cons r x => cases x with
    | cons r' y => cases y with
      | cons r'' z => cases z; obtain ⟨t, rfl⟩ := r; obtain ⟨t', rfl⟩ := r'; obtain ⟨t'', rfl⟩ := r''; exact call_range_3 hc (hQ _ _ (Kp.push _ _ _) ⟨_, _, _, _, rfl, Heap.get?_push_size _ rfl⟩) (Or.inl h.noPylong)

theorem CallR.divmod {a b : Int} (hb : b ≠ 0) (h : Sm b) : CallR prog w A bad (.builtin "divmod") [.int a, .int b] (.tup [a.fdiv b, a.fmod b]) := fun s vs _ rv Q E hQ => by
  cases rv with
  | cons r x => cases x with
    | cons r' y => cases y; obtain ⟨t, rfl⟩ := r; obtain ⟨t', rfl⟩ := r'; exact divmod_int hb (hQ _ _ (Kp.push _ _ _) (Rep.newTup (.cons _ _ (.cons _ _ .nil)))) (Or.inl h.noPylong)

theorem CallR.max2 (hh : A.handled = none) {a b : Int} : CallR prog w A bad (.builtin "max") [.int a, .int b] (.int (max a b)) := fun s vs _ rv Q E hQ => by
  cases rv with
  | cons r x => cases x with
    | cons r' y =>
      cases y; obtain ⟨t, rfl⟩ := r; obtain ⟨t', rfl⟩ := r'
      refine max_two_ints hh fun h' tk hk => hQ _ _ (Kp.of _ hk) ?_
      by_cases hc : b > a
      · rw [if_pos hc]; exact ⟨_, by rw [show max a b = b by omega]⟩
      · rw [if_neg hc]; exact ⟨_, by rw [show max a b = a by omega]⟩

theorem CallR.bytes (hh : A.handled = none) {is : List Int} (hr : ∀ n ∈ is, 0 ≤ n ∧ n < 256) (hz : is.length ≤ 16777216) : CallR prog w A bad (.type "bytes") [.list is] (.bytes (is.map fun n => n.toNat.toUInt8)) := fun s vs _ rv Q E hQ => by
  cases rv with
  | cons r n =>
    cases n; obtain ⟨a, ws, rfl, _, hl, hi⟩ := r
    replace hl := hl.isList
    exact PySem.call_bytes_ints hl hi hr (by rw [hi.length, sizeLine_eq]; exact hz) hh fun h' t k hk => hQ _ _ (Kp.of _ hk) ⟨t, rfl⟩

theorem preSum_getD (ns : List Int) : ∀ k, k ≤ ns.length → preSum (fun j => ns.getD j 0) k = (ns.take k).sum
  | 0, _ => by simp [preSum]
  | k + 1, h => by
    have hk : k < ns.length := h
    rw [preSum, preSum_getD ns k (by omega), List.take_add_one, List.sum_append]
    simp [hk]

theorem walk_list {l : Addr} {vs : List Value} (hh : A.handled = none) (hl : s.heap.IsList l vs.toArray) {Q : Value → Shared → Prop} {E : Value → Shared → Prop}
    (h : ∀ I s₂, Kp s s₂ → s.heap.get? I = none → Walks prog w A I [I, l] [I] vs.length (fun i v => vs[i]? = some v) (fun i h => h.IsListIter I l i ∧ h.IsList l vs.toArray) → (s₂.heap.IsListIter I l 0 ∧ s₂.heap.IsList l vs.toArray) →
      (∀ b ∈ [I, l], b < s₂.heap.objs.size) → Q (.ref I) s₂) : wpAny (model prog w) A (pyIter (.ref l)) Q E s := by
  have hlt : l < s.heap.objs.size := by obtain ⟨_, e, _⟩ := hl; exact Heap.lt_size e
  have W := Walks.list (prog := prog) (w := w) hh s.heap.objs.size l (Nat.ne_of_lt hlt) vs.toArray
  have hn : s.heap.get? s.heap.objs.size = none := by
    cases e : s.heap.get? s.heap.objs.size with
    | none => rfl
    | some o => exact absurd (Heap.lt_size e) (Nat.lt_irrefl _)
  refine wpAny_pyIter_list hl (h _ _ (Kp.push _ _ _) hn (by simpa using W) ⟨⟨_, Heap.get?_push_size _ rfl, rfl, rfl⟩, hl.push _⟩ fun b hb => ?_)
  show b < (s.heap.push _).objs.size
  rw [Heap.size_push]
  rcases List.mem_cons.mp hb with rfl | hb
  · exact Nat.lt_succ_self _
  · rw [List.mem_singleton.mp hb]; exact Nat.lt_succ_of_lt hlt

theorem kept_but {I : Addr} {s₂ : Shared} {h' : Heap} {tk : Nat} (k : Kp s s₂) (hn : s.heap.get? I = none) (hk : ∀ b o, b ∉ [I] → s₂.heap.get? b = some o → h'.get? b = some o) : Kp s { s₂ with heap := h', toks := tk } := by
  obtain ⟨h, t, rfl, k'⟩ := k
  refine ⟨h', tk, rfl, fun b o e => hk b o (fun hm => ?_) (k' b o e)⟩
  rw [List.mem_singleton.mp hm, hn] at e; cases e

theorem CallR.sum (hh : A.handled = none) {is : List Int} : CallR prog w A bad (.builtin "sum") [.list is] (.int is.sum) := fun s vs _ rv Q E hQ => by
  cases rv with
  | cons r n =>
    cases n; obtain ⟨a, ws, rfl, _, hl, hi⟩ := r
    replace hl := hl.isList
    refine call_sum_walkG (walk_list (A := A.in1) hh hl fun I s₂ k₂ hn W hst hfp => ⟨I, _, _, _, _, _, fun j => is.getD j 0, rfl, W, hst, hfp, fun i v hv => ?_, fun h' tk t' hk => ?_⟩)
    · obtain ⟨n, t, rfl, e⟩ := hi.at i v hv
      exact ⟨t, by show Value.int n t = Value.int (is.getD i 0) t; rw [List.getD_eq_getElem?_getD, e]; rfl⟩
    · rw [hi.length, preSum_getD _ _ (Nat.le_refl _), List.take_length]
      exact hQ _ _ (kept_but k₂ hn hk) ⟨t', rfl⟩

theorem argBest_le {bt : Nat → Nat → Bool} : ∀ k, argBest bt k ≤ k
  | 0 => Nat.le_refl _
  | k + 1 => by unfold argBest; split; exact Nat.le_refl _; exact Nat.le_succ_of_le (argBest_le k)
theorem argBest_min (val : Nat → Int) : ∀ k j, j ≤ k → val (argBest (fun i j => decide (val i < val j)) k) ≤ val j
  | 0, j, h => by rw [Nat.le_zero.mp h]; simp [argBest]
  | k + 1, j, h => by
    have ih := argBest_min val k
    unfold argBest
    by_cases c : val (k + 1) < val (argBest (fun i j => decide (val i < val j)) k)
    · rw [if_pos (by simpa using c)]
      rcases Nat.lt_or_ge k j with h1 | h1
      · rw [show j = k + 1 by omega]; omega
      · have := ih j h1; omega
    · rw [if_neg (by simpa using c)]
      rcases Nat.lt_or_ge k j with h1 | h1
      · rw [show j = k + 1 by omega]; omega
      · exact ih j h1
theorem argBest_max (val : Nat → Int) : ∀ k j, j ≤ k → val j ≤ val (argBest (fun i j => decide (val i > val j)) k)
  | 0, j, h => by rw [Nat.le_zero.mp h]; simp [argBest]
  | k + 1, j, h => by
    have ih := argBest_max val k
    unfold argBest
    by_cases c : val (k + 1) > val (argBest (fun i j => decide (val i > val j)) k)
    · rw [if_pos (by simpa using c)]
      rcases Nat.lt_or_ge k j with h1 | h1
      · rw [show j = k + 1 by omega]; omega
      · have := ih j h1; omega
    · rw [if_neg (by simpa using c)]
      rcases Nat.lt_or_ge k j with h1 | h1
      · rw [show j = k + 1 by omega]; omega
      · exact ih j h1

theorem CallR.min (hh : A.handled = none) {is : List Int} {m : Int} (hm : m ∈ is) (hle : ∀ j ∈ is, m ≤ j) : CallR prog w A bad (.builtin "min") [.list is] (.int m) := fun s vs _ rv Q E hQ => by
  cases rv with
  | cons r n =>
    cases n; obtain ⟨a, ws, rfl, _, hl, hi⟩ := r
    replace hl := hl.isList
    have hpos : 0 < is.length := List.length_pos_of_mem hm
    have hval : ∀ (i : Nat) (v : Value), ws[i]? = some v → ∃ t, v = .int (is.getD i 0) t := fun i v hv => by
      obtain ⟨n, t, rfl, e⟩ := hi.at i v hv
      exact ⟨t, by rw [List.getD_eq_getElem?_getD, e]; rfl⟩
    refine call_min_walk (walk_list (A := A.in1) hh hl fun I s₂ k₂ hn W hst hfp => ⟨I, _, _, _, _, _, _, rfl, W, hst, hfp, by rw [hi.length]; exact hpos, CmpOf.ints_lt (fun j => is.getD j 0) hval, fun v h' tk hP hk => ?_⟩)
    obtain ⟨t, rfl⟩ := hval _ _ hP
    refine hQ _ _ (kept_but k₂ hn hk) ⟨t, ?_⟩
    congr 1
    have hb := argBest_le (bt := fun i j => decide (is.getD i 0 < is.getD j 0)) (ws.length - 1)
    rw [hi.length] at hb ⊢
    apply Int.le_antisymm
    · obtain ⟨j, hj, e⟩ := List.getElem_of_mem hm
      have := argBest_min (fun j => is.getD j 0) (is.length - 1) j (by omega)
      simp only [List.getD_eq_getElem?_getD, List.getElem?_eq_getElem hj, e] at this
      simpa [List.getD_eq_getElem?_getD] using this
    · have hlt : argBest (fun i j => decide (is.getD i 0 < is.getD j 0)) (is.length - 1) < is.length := by omega
      rw [List.getD_eq_getElem?_getD, List.getElem?_eq_getElem hlt]
      exact hle _ (List.getElem_mem hlt)
theorem CallR.max (hh : A.handled = none) {is : List Int} {m : Int} (hm : m ∈ is) (hle : ∀ j ∈ is, j ≤ m) : CallR prog w A bad (.builtin "max") [.list is] (.int m) := fun s vs _ rv Q E hQ => by
  cases rv with
  | cons r n =>
    cases n; obtain ⟨a, ws, rfl, _, hl, hi⟩ := r
    replace hl := hl.isList
    have hpos : 0 < is.length := List.length_pos_of_mem hm
    have hval : ∀ (i : Nat) (v : Value), ws[i]? = some v → ∃ t, v = .int (is.getD i 0) t := fun i v hv => by
      obtain ⟨n, t, rfl, e⟩ := hi.at i v hv
      exact ⟨t, by rw [List.getD_eq_getElem?_getD, e]; rfl⟩
    refine call_max_walk (walk_list (A := A.in1) hh hl fun I s₂ k₂ hn W hst hfp => ⟨I, _, _, _, _, _, _, rfl, W, hst, hfp, by rw [hi.length]; exact hpos, CmpOf.ints_gt (fun j => is.getD j 0) hval, fun v h' tk hP hk => ?_⟩)
    obtain ⟨t, rfl⟩ := hval _ _ hP
    refine hQ _ _ (kept_but k₂ hn hk) ⟨t, ?_⟩
    congr 1
    have hb := argBest_le (bt := fun i j => decide (is.getD i 0 > is.getD j 0)) (ws.length - 1)
    rw [hi.length] at hb ⊢
    apply Int.le_antisymm
    · have hlt : argBest (fun i j => decide (is.getD i 0 > is.getD j 0)) (is.length - 1) < is.length := by omega
      rw [List.getD_eq_getElem?_getD, List.getElem?_eq_getElem hlt]
      exact hle _ (List.getElem_mem hlt)
    · obtain ⟨j, hj, e⟩ := List.getElem_of_mem hm
      have := argBest_max (fun j => is.getD j 0) (is.length - 1) j (by omega)
      simp only [List.getD_eq_getElem?_getD, List.getElem?_eq_getElem hj, e] at this
      simpa [List.getD_eq_getElem?_getD] using this

theorem ints_of : ∀ {vs : List Value} {ns : List Int}, vs.length = ns.length → (∀ (i : Nat) (v : Value), vs[i]? = some v → ∃ (n : Int) (t : Tok), v = Value.int n t ∧ ns[i]? = some n) → IntsAre vs ns
  | [], [], _, _ => .nil
  | [], _ :: _, h, _ => by simp at h
  | _ :: _, [], h, _ => by simp at h
  | v :: vs, n :: ns, h, H => by
    obtain ⟨n', t, e, e'⟩ := H 0 v rfl
    simp at e'
    subst e e'
    exact .cons _ t (ints_of (by simpa using h) fun i u hu => H (i + 1) u (by simpa using hu))

/-- the ints of a range -/
def rng (a c : Int) (n : Nat) : List Int := (List.range n).map fun (i : Nat) => a + (i : Int) * c
theorem CallR.listRange (hh : A.handled = none) {a b c : Int} {n : Nat} (hsmall : Builtin.Range.small a b c = true) (hn : Builtin.Range.rangeSize a b c = n) (hlen : n ≤ 2 ^ 24) : CallR prog w A bad (.type "list") [.range a b c] (.list (rng a c n)) := fun s vs hb rv Q E hQ => by
  cases rv with
  | cons r x =>
    cases x; obtain ⟨r, t, u, v, rfl, hr⟩ := r
    refine call_list_range hh hr hsmall hn hlen fun h' tk acc' c' hk hD hI => hQ _ _ (Kp.of _ hk) ⟨_, acc'.toList, rfl, hb.fresh, ⟨c', by rw [Array.toArray_toList]; exact hD⟩, ?_⟩
    obtain ⟨hz, hI⟩ := hI
    exact ints_of (by simp [rng, hz]) fun i v hv => by
      obtain ⟨t, rfl⟩ := hI i v (by simpa using hv)
      have hi : i < n := by
        have := (List.getElem?_eq_some_iff.mp hv).1
        rw [Array.length_toList, hz] at this; exact this
      exact ⟨_, t, rfl, by simp [rng, hi]⟩
end
end B58

namespace B58

/-- a value that is walked: its ints -/
def SrcR (prog : Program) (w : World) (A : Around) (p : PV) (items : List Int) : Prop :=
  ∀ (s : Shared) (v : Value) (Q : Value → Shared → Prop) (E : Value → Shared → Prop), Rep prog w [] s.heap v p →
    (∀ I fp wr (P : Nat → Value → Prop) (St : Nat → Heap → Prop) s₂, Kp s s₂ → Walks prog w A I fp wr items.length P St → (∀ i v, P i v → i < items.length ∧ ∃ t, v = .int (items.getD i 0) t) → St 0 s₂.heap →
      (∀ b ∈ fp, b < s₂.heap.objs.size) → (∀ b ∈ wr, s.heap.get? b = none) → (∀ b ∈ fp, s.heap.get? b = none ∨ ∃ r is, v = .ref r ∧ p = .list is ∧ b = r) → Q (.ref I) s₂) → wpAny (model prog w) A (pyIter v) Q E s

section
variable {prog : Program} {w : World} {A : Around} {env : Env} {bad : List Addr} {s s' : Shared} {D : Dt} {σ : List (Str × PV)}

theorem get_new (s : Shared) : s.heap.get? s.heap.objs.size = none := by
  cases e : s.heap.get? s.heap.objs.size with
  | none => rfl
  | some o => exact absurd (Heap.lt_size e) (Nat.lt_irrefl _)

theorem rng_len (a c : Int) (n : Nat) : (rng a c n).length = n := by simp [rng]
theorem rng_get (a c : Int) {n i : Nat} (h : i < n) : (rng a c n).getD i 0 = a + i * c := by simp [rng, h]

theorem SrcR.range (hh : A.handled = none) {a b c : Int} {n : Nat} (hs : Builtin.Range.small a b c = true) (hn : Builtin.Range.rangeSize a b c = n) : SrcR prog w A (.range a b c) (rng a c n) := fun s v Q E rv hQ => by
  obtain ⟨r, t, u, x, rfl, hr⟩ := rv
  refine wpAny_pyIter_range hr hs (hQ _ [s.heap.objs.size] [s.heap.objs.size] (fun i v => i < n ∧ ∃ t, v = .int (a + i * c) t) (fun i h => IsRangeIter h s.heap.objs.size (a + (i : Nat) * c) ((n : Int) - (i : Nat)) c) _ (Kp.push _ _ _) ?_ ?_ ?_ ?_ ?_ ?_)
  · rw [rng_len]; exact (Walks.range hh _ a c n).bound
  · rintro i v ⟨hi, t, rfl⟩
    exact ⟨by rw [rng_len]; exact hi, t, by rw [rng_get a c hi]⟩
  · show IsRangeIter _ _ _ _ _
    rw [hn]; simpa using Heap.get?_push_size _ rfl
  · intro b hb
    rw [List.mem_singleton.mp hb]
    show _ < (s.heap.push _).objs.size
    rw [Heap.size_push]; exact Nat.lt_succ_self _
  · intro b hb; rw [List.mem_singleton.mp hb]; exact get_new s
  · intro b hb; rw [List.mem_singleton.mp hb]; exact .inl (get_new s)

theorem SrcR.list (hh : A.handled = none) {is : List Int} : SrcR prog w A (.list is) is := fun s v Q E rv hQ => by
  obtain ⟨a, vs, rfl, _, hl, hi⟩ := rv
  replace hl := hl.isList
  refine walk_list hh hl fun I s₂ k₂ hn W hst hfp => hQ I _ _ _ _ s₂ k₂ (hi.length ▸ W) (fun i v hv => ?_) hst hfp (fun b hb => by rw [List.mem_singleton.mp hb]; exact hn) fun b hb => ?_
  · obtain ⟨n, t, rfl, e⟩ := hi.at i v hv
    exact ⟨(List.getElem?_eq_some_iff.mp e).1, t, by rw [List.getD_eq_getElem?_getD, e]; rfl⟩
  · rcases List.mem_cons.mp hb with rfl | hb
    · exact .inl hn
    · exact .inr ⟨a, is, rfl, rfl, List.mem_singleton.mp hb⟩

/-- bytes as ints -/
def bInts (b : List UInt8) : List Int := b.map fun c => ((c.toNat : Nat) : Int)
theorem SrcR.bytes (hh : A.handled = none) {b : List UInt8} : SrcR prog w A (.bytes b) (bInts b) := fun s v Q E rv hQ => by
  obtain ⟨t, rfl⟩ := rv
  have W := PySem.W.KBw.walks (prog := prog) (w := w) hh s.heap.objs.size b.toArray t
  have hz : b.toArray.size = (bInts b).length := by simp [bInts]
  rw [hz] at W
  refine PySem.W.KBw.pyIter_bytes (hQ _ _ _ _ _ _ (Kp.push _ _ _) W ?_ ⟨_, Heap.get?_push_size _ rfl, rfl, rfl⟩ ?_ ?_ ?_)
  · rintro i v ⟨c, u, e, rfl⟩
    have e' : b[i]? = some c := by simpa using e
    refine ⟨by simpa [bInts] using (List.getElem?_eq_some_iff.mp e').1, u, ?_⟩
    rw [List.getD_eq_getElem?_getD]; simp [bInts, e']
  · intro x hx
    rw [List.mem_singleton.mp hx]
    show _ < (s.heap.push _).objs.size
    rw [Heap.size_push]; exact Nat.lt_succ_self _
  · intro x hx; rw [List.mem_singleton.mp hx]; exact get_new s
  · intro x hx; rw [List.mem_singleton.mp hx]; exact .inl (get_new s)

-- comprehensions
/-- the cells that a comprehension sees: each name is one of the frame's cells -/
def Sees (env : Env) (scope : Scope) (cl : List (Str × Addr)) (σ : List (Str × PV)) : List (Str × PV) → Prop
  | [] => True
  | (y, p) :: r => (σ.lookup y = some p ∧ scope.names.lookup y = some .free ∧ env.kindOf y = some .cell ∧ cl.lookup y = env.cells.lookup y ∧ (y == ("__debug__" : Str)) = false) ∧ Sees env scope cl σ r

theorem Sees.at {scope : Scope} {cl : List (Str × Addr)} : ∀ {κ : List (Str × PV)}, Sees env scope cl σ κ → ∀ {y p}, κ.lookup y = some p →
    σ.lookup y = some p ∧ scope.names.lookup y = some .free ∧ env.kindOf y = some .cell ∧ cl.lookup y = env.cells.lookup y ∧ (y == ("__debug__" : Str)) = false
  | (k, q) :: r, h, y, p, e => by
    rw [List.lookup_cons] at e
    cases hb : y == k with
    | true =>
      rw [hb] at e; cases e
      rw [beq_iff_eq.mp hb]; exact h.1
    | false => rw [hb] at e; exact Sees.at h.2 e

theorem lookup_relabel_cell (hk : env.scope.kind = .function) {x : Str} (hx : env.kindOf x = some .cell) : ∀ {names : List (Str × NameKind)}, names.lookup x = some .free →
    (names.map fun (n, k) => if (k == NameKind.free && env.scope.kind == .function && env.kindOf n == some .cell) then (n, NameKind.cell) else (n, k)).lookup x = some .cell
  | [], h => by simp at h
  | (n, k) :: r, h => by
    have ih := @lookup_relabel_cell hk x hx r
    show List.lookup x ((if (k == NameKind.free && env.scope.kind == .function && env.kindOf n == some .cell) = true then (n, NameKind.cell) else (n, k)) :: _) = _
    cases hxn : x == n with
    | true =>
      simp only [List.lookup_cons, hxn] at h
      cases h
      have e := beq_iff_eq.mp hxn
      subst e
      rw [if_pos (by rw [hk, hx]; rfl)]
      simp [List.lookup_cons]
    | false =>
      simp only [List.lookup_cons, hxn] at h
      by_cases hc : (k == NameKind.free && env.scope.kind == .function && env.kindOf n == some .cell) = true
      · rw [if_pos hc]; simp only [List.lookup_cons, hxn]; exact ih h
      · rw [if_neg hc]; simp only [List.lookup_cons, hxn]; exact ih h

theorem comp_cx (C : Cx prog w A env s D σ) {scope : Scope} {cl : List (Str × Addr)} {κ : List (Str × PV)} (hκ : Sees env scope cl σ κ) (hkind : scope.kind = .function) {x : Str} (hx : scope.names.lookup x = some .local) (hd : (x == ("__debug__" : Str)) = false)
    {K : Addr} {s₃ : Shared} {m₃ : Str → Option Value} {n : Int} {t : Tok} (k : Hx s s₃) (hn : s₃.heap.Ns K m₃) (hm : m₃ x = some (.int n t)) : Cx prog w A (compEnvC scope cl K env) s₃ D ((x, .int n) :: κ) where
  hh := C.hh
  kind := hkind
  glob := C.glob
  bi := C.bi
  gf := C.gf.up k.get
  names := fun y p e pos s₁ Q E k₁ hQ => by
    rw [List.lookup_cons] at e
    cases hb : y == x with
    | true =>
      rw [hb] at e; cases e
      have e' := beq_iff_eq.mp hb
      subst e'
      exact wpAny_Name (wpAny_loadName_local hkind (lookup_relabel_local hx) (hn.keeps k₁.get) hm (hQ _ _ (Kp.refl _) ⟨t, rfl⟩)) hd
    | false =>
      rw [hb] at e
      obtain ⟨h1, h2, h3, h4, h5⟩ := hκ.at e
      obtain ⟨c, v, e1, hi, hr⟩ := C.cells y p h1 h3
      have k' := k.tr k₁
      exact wpAny_Name (wpAny_loadName_cell (env := compEnvC scope cl K env) hkind (lookup_relabel_cell C.kind h3 h2) (h4.trans e1) (hi.keeps k'.get) (hQ _ _ (Kp.refl _) (hr.up k'.get))) h5
  cells := fun y p e hk => by
    rw [List.lookup_cons] at e
    cases hb : y == x with
    | true =>
      have e' := beq_iff_eq.mp hb
      subst e'
      have : (compEnvC scope cl K env).kindOf y = some .local := lookup_relabel_local hx
      rw [this] at hk; cases hk
    | false =>
      rw [hb] at e
      obtain ⟨h1, h2, h3, h4, h5⟩ := hκ.at e
      obtain ⟨c, v, e1, hi, hr⟩ := C.cells y p h1 h3
      exact ⟨c, v, h4.trans e1, hi.keeps k.get, hr.up k.get⟩

/-- the test of a comprehension: none, or one -/
inductive Ifs (prog : Program) (w : World) (A : Around) (env : Env) (s : Shared) : List Expr → Bool → Prop
  | none : Ifs prog w A env s [] true
  | one {c b} : Tr prog w A env s c b → Ifs prog w A env s [c] b
theorem Ifs.sound {ifs : List Expr} {b : Bool} (h : Ifs prog w A env s ifs b) {E : Value → Shared → Prop} :
    wpAny (model prog w) A (forIn ifs true fun c r => if r = true then do let ok ← isTrue c env (eval c env); pure (ForInStep.yield ok) else pure (ForInStep.yield r)) (fun ok s₄ => ok = b ∧ PySem.Keeps s s₄) E s := by
  cases h with
  | none => exact wpAny_tests_nil ⟨rfl, (Kp.refl s).out⟩
  | one h => exact wpAny_tests_one (h s _ _ (Hx.refl s) fun s₂ k => ⟨rfl, k.out⟩)

def cTest (pz : Int → Bool) : Value → Bool
  | .int n _ => pz n
  | _ => false
def cElt (g : Int → Int) (v y : Value) : Prop := ∃ n t t', v = Value.int n t ∧ y = Value.int (g n) t'

theorem kept_wr {wr : List Addr} {s₂ : Shared} {h' : Heap} {tk : Nat} (k : Kp s s₂) (hn : ∀ b ∈ wr, s.heap.get? b = none) (hk : ∀ b o, b ∉ wr → s₂.heap.get? b = some o → h'.get? b = some o) : Kp s { s₂ with heap := h', toks := tk } := by
  obtain ⟨h, t, rfl, k'⟩ := k
  refine ⟨h', tk, rfl, fun b o e => hk b o (fun hm => ?_) (k' b o e)⟩
  rw [hn b hm] at e; cases e

theorem paired_list {g : Int → Int} {pz : Int → Bool} {items : List Int} : ∀ {vs ys : List Value}, IntsAre vs items → Paired (cElt g) (vs.filter (cTest pz)) ys → IntsAre ys ((items.filter pz).map g) := by
  induction items with
  | nil => intro vs ys h p; cases h; cases p; exact .nil
  | cons n r ih =>
    intro vs ys h p
    cases h with
    | cons _ t h =>
      simp only [List.filter_cons] at p ⊢
      have e0 : cTest pz (Value.int n t) = pz n := rfl
      rw [e0] at p
      cases hz : pz n with
      | false =>
        rw [hz] at p
        simp only [Bool.false_eq_true, if_false] at p ⊢
        exact ih h p
      | true =>
        rw [hz] at p
        simp only [if_true, List.map_cons] at p ⊢
        cases p with
        | cons a b => obtain ⟨n', t1, t2, e, rfl⟩ := a; cases e; exact .cons _ _ (ih h b)

/-- a comprehension's leaf -/
def CompOk (prog : Program) (w : World) (A : Around) (env : Env) (s : Shared) (D : Dt) (scope : Scope) (cl : List (Str × Addr)) (κ : List (Str × PV)) (x : Str) (ifs : List Expr) (elt : Expr) (items : List Int) (pz : Int → Bool) (g : Int → Int) : Prop :=
  ∀ n, n ∈ items → ∀ K s₃, Hx s s₃ → Cx prog w A (compEnvC scope cl K env) s₃ D ((x, .int n) :: κ) → Ifs prog w A (compEnvC scope cl K env) s₃ ifs (pz n) ∧ (pz n = true → Ev prog w A (compEnvC scope cl K env) [] s₃ elt (.int (g n)))

theorem comp_quiet (C : Cx prog w A env s D σ) {scope : Scope} {cl : List (Str × Addr)} {κ : List (Str × PV)} (hκ : Sees env scope cl σ κ) (hkind : scope.kind = .function) {x : Str} (hx : scope.names.lookup x = some .local) (hd : (x == ("__debug__" : Str)) = false)
    {ifs : List Expr} {elt : Expr} {items : List Int} {pz : Int → Bool} {g : Int → Int} (H : CompOk prog w A env s D scope cl κ x ifs elt items pz g)
    {s₁ s₂ : Shared} (k₁ : Hx s s₁) {P : Nat → Value → Prop} {wr : List Addr} (hP : ∀ i v, P i v → i < items.length ∧ ∃ t, v = .int (items.getD i 0) t) (k₂ : Kp s₁ s₂) (hwr : ∀ b ∈ wr, s₁.heap.get? b = none) :
    QuietOnC prog w A env scope cl x ifs elt wr P (cTest pz) (cElt g) s₂ where
  tests := fun K i v s₃ m₃ E' _ hv hn hm hk _ => by
    obtain ⟨hi, t, rfl⟩ := hP i v hv
    have k₃ : Hx s s₃ := k₁.tr ⟨fun b o e => hk b o (fun q => by rw [hwr b q] at e; cases e) (k₂.get b o e)⟩
    have hmem : items.getD i 0 ∈ items := by rw [List.getD_eq_getElem?_getD, List.getElem?_eq_getElem hi]; exact List.getElem_mem hi
    exact (H _ hmem K s₃ k₃ (comp_cx C hκ hkind hx hd k₃ hn hm)).1.sound
  elt := fun K i v s₃ m₃ E' _ hv hp hn hm hk _ => by
    obtain ⟨hi, t, rfl⟩ := hP i v hv
    have k₃ : Hx s s₃ := k₁.tr ⟨fun b o e => hk b o (fun q => by rw [hwr b q] at e; cases e) (k₂.get b o e)⟩
    have hmem : items.getD i 0 ∈ items := by rw [List.getD_eq_getElem?_getD, List.getElem?_eq_getElem hi]; exact List.getElem_mem hi
    exact (H _ hmem K s₃ k₃ (comp_cx C hκ hkind hx hd k₃ hn hm)).2 hp s₃ _ _ (Hx.refl _) fun y s₄ k₄ ⟨t', e⟩ => ⟨⟨_, t, t', rfl, e⟩, k₄.out⟩

theorem items_are {items : List Int} {vs : List Value} {P : Nat → Value → Prop} (hlen : vs.length = items.length) (hv : ∀ j v, vs[j]? = some v → P j v) (hP : ∀ i v, P i v → i < items.length ∧ ∃ t, v = .int (items.getD i 0) t) : IntsAre vs items :=
  ints_of hlen fun i v e => by
    obtain ⟨hi, t, rfl⟩ := hP i v (hv i v e)
    exact ⟨_, t, rfl, by rw [List.getD_eq_getElem?_getD, List.getElem?_eq_getElem hi]; rfl⟩

theorem Ev.comp (C : Cx prog w A env s D σ) {scope : Scope} {cl : List (Str × Addr)} (κ : List (Str × PV)) {x : Str} {px pos : Pos} {ifs : List Expr} {elt iter : Expr} {p : PV} {items : List Int} {pz : Int → Bool} {g : Int → Int}
    (hclos : closureFor scope env = pure cl) (hκ : Sees env scope cl σ κ) (hcell : ∀ y ∈ scope.names, y.2 ≠ .cell) (hkind : scope.kind = .function)
    (hnames : ∀ y ∈ scope.names, y.2 = .local → scope.names.lookup y.1 = some .local) (hx : scope.names.lookup x = some .local) (hd : (x == ("__debug__" : Str)) = false)
    (hs : ∀ x, foldedSetIterable iter env x = pure x) (he : Ev prog w A env [] s iter p) (hS : SrcR prog w A p items) (hz : items.length ≤ 16777216) (hb : Live bad s)
    (H : CompOk prog w A env s D scope cl κ x ifs elt items pz g) :
    Ev prog w A env bad s (.ListComp elt [⟨.Name x px, iter, ifs, 0⟩] scope pos) (.list ((items.filter pz).map g)) := fun s₁ Q E k₁ hQ =>
  wpAny_ListComp_free (cTest pz) (cElt g) hclos hcell hkind hnames hx
    (he s₁ _ _ k₁ fun v s₂ k₂ rv => hS s₂ v _ _ rv fun I fp wr P St s₃ k₃ W hP hst hfp hwr hfp' =>
      ⟨I, fp, wr, items.length, P, St, rfl, W, by rw [sizeLine_eq]; exact hz, hst, hfp, comp_quiet C hκ hkind hx hd H (k₁.trans k₂) hP k₃ hwr, fun Dd h' tk ys vs hD _ hl hlen hv hF hk => by
        refine hQ _ _ (k₂.trans (kept_wr k₃ hwr hk)) ⟨Dd, ys.toList, rfl, fun q => ?_, by rw [Array.toArray_toList]; exact hl, paired_list (items_are hlen hv hP) hF⟩
        obtain ⟨o, ho⟩ := (hb.up ((k₁.trans k₂).trans k₃)) _ q
        rw [hD] at ho; cases ho⟩) hs
end
end B58

namespace B58

/-- a name of the frame: a local's value, or a cell's -/
def vl (env : Env) (m cm : Str → Option Value) (x : Str) : Option Value :=
  if env.kindOf x = some .local then m x else if env.kindOf x = some .cell ∧ (env.cells.lookup x).isSome = true then cm x else none

/-- the frame between two statements: what its names hold; lists and dicts are its own, each of one name alone -/
structure St0 (prog : Program) (w : World) (env : Env) (s₀ : Shared) (kp : List (Addr × Obj)) (m cm : Str → Option Value) (loc : List (Str × PV)) (s : Shared) : Prop where
  X : InCallC s₀ env.locals m env.cells cm s
  V : ∀ x p, loc.lookup x = some p → ∃ v, vl env m cm x = some v ∧ Rep prog w [] s.heap v p ∧ (p.flat = false → ∀ a, v = .ref a → s₀.heap.get? a = none ∧ a ∉ kp.map (·.1) ∧ a ≠ env.locals)
  P : ∀ x y p q a, x ≠ y → loc.lookup x = some p → loc.lookup y = some q → p.flat = false → q.flat = false → vl env m cm x = some (.ref a) → vl env m cm y ≠ some (.ref a)
  K : ∀ p ∈ kp, s.heap.get? p.1 = some p.2 ∧ p.1 ≠ env.locals ∧ (∀ n, env.cells.lookup n ≠ some p.1)
def St (prog : Program) (w : World) (env : Env) (s₀ : Shared) (kp : List (Addr × Obj)) (loc : List (Str × PV)) (s : Shared) : Prop := ∃ m cm, St0 prog w env s₀ kp m cm loc s

/-- what stays fixed in a call -/
structure Fx (prog : Program) (w : World) (A : Around) (env : Env) (s₀ : Shared) (D : Dt) : Prop where
  hh : A.handled = none
  kind : env.scope.kind = .function
  glob : env.globals = mainGlobals
  bi : env.builtins = builtinsNs
  gf : GF s₀.heap D

/-- an expression whose value, a list or a dict, is new -/
def EvF (prog : Program) (w : World) (A : Around) (env : Env) (s : Shared) (e : Expr) (p : PV) : Prop := ∀ s' bad, Hx s s' → Live bad s' → Ev prog w A env bad s' e p

section
variable {prog : Program} {w : World} {A : Around} {env : Env} {bad : List Addr} {s s' s₀ : Shared} {D : Dt} {σ loc : List (Str × PV)} {kp : List (Addr × Obj)}

theorem EvF.of {e : Expr} {p : PV} (h : Ev prog w A env [] s e p) (hp : p.flat = true) : EvF prog w A env s e p := fun s' bad k _ => (h.up k).flat hp
theorem EvF.ev {e : Expr} {p : PV} (h : EvF prog w A env s e p) (hb : Live bad s) : Ev prog w A env bad s e p := h s bad (Hx.refl _) hb

theorem ns_obj {h : Heap} {a : Addr} {m : Str → Option Value} (n : h.Ns a m) : ∃ o es ep, h.get? a = some o ∧ o.data = .dict es ep := let ⟨o, es, ep, ho, hd, _⟩ := n; ⟨o, es, ep, ho, hd⟩

/-- a place that holds no sequence and no range: a frame, a cell, an iterator -/
def Odd (h : Heap) (b : Addr) : Prop := ∃ o, h.get? b = some o ∧ (∀ its n, o.data ≠ .seq its n) ∧ (o.cls ≠ .type "range" ∨ ∀ vs, o.data ≠ .fields vs)

def PV.still : PV → Bool
  | .ilist _ => false
  | _ => true

theorem Rep.odd {h h' : Heap} {b : Addr} {v : Value} {p : PV} (r : Rep prog w bad h v p) (hs : Heap.ExtBut b h h') (hb : Odd h b) (hne : p.flat = false → v ≠ .ref b) : Rep prog w bad h' v p := by
  obtain ⟨ob, hob, h1, h2⟩ := hb
  cases p with
  | none => exact r
  | bool b => exact r
  | int i => exact r
  | bytes b => exact r
  | list is =>
    obtain ⟨a, vs, rfl, hb, ⟨n, ho⟩, hi⟩ := r
    have : a ≠ b := fun e => hne rfl (by rw [e])
    exact ⟨a, vs, rfl, hb, ⟨n, hs a _ this ho⟩, hi⟩
  | tup is =>
    obtain ⟨a, vs, rfl, ⟨o, ho, hc, n, hd⟩, hi⟩ := r
    have : a ≠ b := by rintro rfl; rw [hob] at ho; cases ho; exact h1 _ _ hd
    exact ⟨a, vs, rfl, ⟨o, hs a o this ho, hc, n, hd⟩, hi⟩
  | dict f =>
    obtain ⟨d, kvs, rfl, hbd, hs', hd, hf⟩ := r
    have : d ≠ b := fun e => hne rfl (by rw [e])
    exact ⟨d, kvs, rfl, hbd, hs', hd.extBut hs this, hf⟩
  | range x y z =>
    obtain ⟨r, t, u, q, rfl, hr⟩ := r
    have : r ≠ b := by
      rintro rfl
      unfold IsRange at hr
      rw [hob] at hr; cases hr
      rcases h2 with e | e
      · exact e rfl
      · exact e _ rfl
    exact ⟨r, t, u, q, rfl, hs r _ this hr⟩
  | ilist is =>
    obtain ⟨a, vs, rfl, ⟨o, ho, hc, n, hd⟩, hI⟩ := r
    have : a ≠ b := by rintro rfl; rw [hob] at ho; cases ho; exact h1 _ _ hd
    exact ⟨a, vs, rfl, ⟨o, hs a o this ho, hc, n, hd⟩, hI⟩

/-- a list is written -/
theorem Rep.lst {h h' : Heap} {b : Addr} {its : Array Value} {v : Value} {p : PV} (r : Rep prog w bad h v p) (hs : Heap.ExtBut b h h') (hb : h.PlainList b its) (hne : p.flat = false → v ≠ .ref b) (hi : p.still = true) : Rep prog w bad h' v p := by
  obtain ⟨nb, hob⟩ := hb
  cases p with
  | none => exact r
  | bool b => exact r
  | int i => exact r
  | bytes b => exact r
  | list is =>
    obtain ⟨a, vs, rfl, hb, ⟨n, ho⟩, hi⟩ := r
    have : a ≠ b := fun e => hne rfl (by rw [e])
    exact ⟨a, vs, rfl, hb, ⟨n, hs a _ this ho⟩, hi⟩
  | tup is =>
    obtain ⟨a, vs, rfl, ⟨o, ho, hc, n, hd⟩, hi⟩ := r
    have : a ≠ b := by rintro rfl; rw [hob] at ho; cases ho; exact absurd (show Value.type "list" = Value.type "tuple" from hc) (by decide)
    exact ⟨a, vs, rfl, ⟨o, hs a o this ho, hc, n, hd⟩, hi⟩
  | dict f =>
    obtain ⟨d, kvs, rfl, hbd, hs', hd, hf⟩ := r
    have : d ≠ b := fun e => hne rfl (by rw [e])
    exact ⟨d, kvs, rfl, hbd, hs', hd.extBut hs this, hf⟩
  | range x y z =>
    obtain ⟨r, t, u, q, rfl, hr⟩ := r
    have : r ≠ b := by
      rintro rfl
      unfold IsRange at hr
      rw [hob] at hr
      have := congrArg Obj.cls (Option.some.inj hr)
      exact absurd (show Value.type "list" = Value.type "range" from this) (by decide)
    exact ⟨r, t, u, q, rfl, hs r _ this hr⟩
  | ilist is => cases hi

theorem InCallC.kept {m cm : Str → Option Value} {cs : List (Str × Addr)} {L : Addr} (x : InCallC s₀ L m cs cm s) (k : Kp s s') : InCallC s₀ L m cs cm s' := by
  obtain ⟨⟨⟨h, t, rfl⟩, ns, keep, fresh⟩, cell, apart, above⟩ := x
  obtain ⟨h', t', rfl, k'⟩ := k
  exact ⟨⟨⟨h', t', rfl⟩, ns.keeps k', fun b o e => k' b o (keep b o e), fresh⟩, fun n c e => (cell n c e).keeps k', apart, above⟩

theorem St0.kept {m cm : Str → Option Value} (S : St0 prog w env s₀ kp m cm loc s) (k : Kp s s') : St0 prog w env s₀ kp m cm loc s' :=
  ⟨InCallC.kept S.X k, fun x p e => let ⟨v, e1, r, f⟩ := S.V x p e; ⟨v, e1, r.up k.get, f⟩, S.P, fun p hp => ⟨k.get _ _ (S.K p hp).1, (S.K p hp).2⟩⟩
theorem St.kept (S : St prog w env s₀ kp loc s) (k : Kp s s') : St prog w env s₀ kp loc s' := let ⟨m, cm, S⟩ := S; ⟨m, cm, S.kept k⟩

theorem St.out (S : St prog w env s₀ kp loc s) : Kp s₀ s := by
  obtain ⟨m, cm, X, V, P, K⟩ := S
  exact ⟨X.done⟩

/-- fewer names, or the same ones told otherwise -/
def Sub (loc : List (Str × PV)) : List (Str × PV) → Prop
  | [] => True
  | (x, p) :: r => loc.lookup x = some p ∧ Sub loc r
theorem Sub.at : ∀ {loc' : List (Str × PV)}, Sub loc loc' → ∀ {x p}, loc'.lookup x = some p → loc.lookup x = some p
  | (k, q) :: r, h, x, p, e => by
    rw [List.lookup_cons] at e
    cases hb : x == k with
    | true => rw [hb] at e; cases e; rw [beq_iff_eq.mp hb]; exact h.1
    | false => rw [hb] at e; exact Sub.at h.2 e
theorem St.re (S : St prog w env s₀ kp loc s) (loc' : List (Str × PV)) (h : Sub loc loc') : St prog w env s₀ kp loc' s := by
  obtain ⟨m, cm, X, V, P, K⟩ := S
  exact ⟨m, cm, X, fun x p e => V x p (h.at e), fun x y p q a hxy e e' => P x y p q a hxy (h.at e) (h.at e'), K⟩

theorem St.reL (S : St prog w env s₀ kp loc s) {loc' : List (Str × PV)} (h : ∀ x p, loc'.lookup x = some p → loc.lookup x = some p) : St prog w env s₀ kp loc' s := by
  obtain ⟨m, cm, X, V, P, K⟩ := S
  exact ⟨m, cm, X, fun x p e => V x p (h x p e), fun x y p q a hxy e e' => P x y p q a hxy (h x p e) (h y q e'), K⟩

theorem St.cx (S : St prog w env s₀ kp loc s) (F : Fx prog w A env s₀ D) (hd : (loc.all fun q => !(q.1 == ("__debug__" : Str))) = true) : Cx prog w A env s D loc where
  hh := F.hh
  kind := F.kind
  glob := F.glob
  bi := F.bi
  gf := F.gf.up S.out.get
  names := fun x p e pos s₁ Q E k hQ => by
    obtain ⟨m, cm, X, V, P, K⟩ := S
    obtain ⟨v, e1, r, f⟩ := V x p e
    have hdx : (x == ("__debug__" : Str)) = false := by
      have := List.all_eq_true.mp hd (x, p) (mem_of_lookup e)
      simpa using this
    unfold vl at e1
    split at e1
    · rename_i hk
      exact wpAny_Name (wpAny_loadName_local F.kind hk (X.toInCall.ns.keeps k.get) e1 (hQ _ _ (Kp.refl _) (r.up k.get))) hdx
    · split at e1
      · rename_i hk
        obtain ⟨hk, hc⟩ := hk
        obtain ⟨c, hc⟩ := Option.isSome_iff_exists.mp hc
        exact wpAny_Name (wpAny_loadName_cell F.kind hk hc ((e1 ▸ X.cell x c hc).keeps k.get) (hQ _ _ (Kp.refl _) (r.up k.get))) hdx
      · cases e1
  cells := fun y p e hk => by
    obtain ⟨m, cm, X, V, P, K⟩ := S
    obtain ⟨v, e1, r, f⟩ := V y p e
    unfold vl at e1
    split at e1
    · rename_i hk'; rw [hk] at hk'; cases hk'
    · split at e1
      · rename_i hk'
        obtain ⟨_, hc⟩ := hk'
        obtain ⟨c, hc⟩ := Option.isSome_iff_exists.mp hc
        exact ⟨c, v, hc, e1 ▸ X.cell y c hc, r⟩
      · cases e1

/-- where a name may be stored -/
def Own (env : Env) (x : Str) : Prop := env.kindOf x = some .local ∨ (env.kindOf x = some .cell ∧ (env.cells.lookup x).isSome = true)

theorem vl_set_local {m cm : Str → Option Value} {x y : Str} {v : Value} (hx : env.kindOf x = some .local) : vl env (fun z => if z = x then some v else m z) cm y = if y = x then some v else vl env m cm y := by
  unfold vl
  by_cases e : y = x
  · subst e; simp [hx]
  · simp [e]
theorem vl_set_cell {m cm : Str → Option Value} {x y : Str} {v : Value} (hx : env.kindOf x = some .cell) (hc : (env.cells.lookup x).isSome = true) : vl env m (fun z => if z = x then some v else cm z) y = if y = x then some v else vl env m cm y := by
  unfold vl
  by_cases e : y = x
  · subst e; simp [hx, hc]
  · simp [e]

/-- all addresses that are in use and matter -/
def Busy (env : Env) (s₀ : Shared) (kp : List (Addr × Obj)) (as : List Addr) : List Addr :=
  env.locals :: (kp.map (·.1) ++ as ++ (List.range s₀.heap.objs.size).filter fun a => (s₀.heap.get? a).isSome)

/-- the addresses of the names' lists and dicts -/
def adrs (env : Env) (m cm : Str → Option Value) (loc : List (Str × PV)) : List Addr :=
  loc.filterMap fun q => if (loc.lookup q.1).any (fun p => !p.flat) then (match vl env m cm q.1 with | some (.ref a) => some a | _ => none) else none

theorem mem_adrs {m cm : Str → Option Value} {x : Str} {p : PV} {a : Addr} (e : loc.lookup x = some p) (hp : p.flat = false) (h : vl env m cm x = some (.ref a)) : a ∈ adrs env m cm loc := by
  unfold adrs
  refine List.mem_filterMap.mpr ⟨(x, p), mem_of_lookup e, ?_⟩
  simp [e, hp, h]

theorem busy_live {m cm : Str → Option Value} (X : InCallC s₀ env.locals m env.cells cm s) (V : ∀ x p, loc.lookup x = some p → ∃ v, vl env m cm x = some v ∧ Rep prog w [] s.heap v p ∧ (p.flat = false → ∀ a, v = .ref a → s₀.heap.get? a = none ∧ a ∉ kp.map (·.1) ∧ a ≠ env.locals))
    (K : ∀ p ∈ kp, s.heap.get? p.1 = some p.2 ∧ p.1 ≠ env.locals ∧ (∀ n, env.cells.lookup n ≠ some p.1)) : Live (Busy env s₀ kp (adrs env m cm loc)) s := by
  intro b hb
  rcases List.mem_cons.mp hb with rfl | hb
  · obtain ⟨o, _, _, ho, _⟩ := X.toInCall.ns; exact ⟨o, ho⟩
  · rcases List.mem_append.mp hb with hb | hb
    · rcases List.mem_append.mp hb with hb | hb
      · obtain ⟨p, hp, rfl⟩ := List.mem_map.mp hb; exact ⟨_, (K p hp).1⟩
      · obtain ⟨⟨x, q⟩, hq, e⟩ := List.mem_filterMap.mp hb
        split at e
        · rename_i hc
          cases hl : loc.lookup x with
          | none => simp only [hl] at hc; cases hc
          | some p =>
            obtain ⟨v, e1, r, _⟩ := V x p hl
            simp only [e1] at e
            split at e
            · rename_i a ev
              cases ev; cases e
              cases p with
              | list is => obtain ⟨_, _, e, _, ⟨n, ho⟩, _⟩ := r; cases e; exact ⟨_, ho⟩
              | dict f => obtain ⟨_, _, e, _, _, ⟨o, _, _, ho, _⟩, _⟩ := r; cases e; exact ⟨o, ho⟩
              | _ => simp only [hl] at hc; cases hc
            · cases e
        · cases e
    · obtain ⟨_, h⟩ := List.mem_filter.mp hb
      obtain ⟨o, ho⟩ := Option.isSome_iff_exists.mp h
      exact ⟨o, X.toInCall.keep _ _ ho⟩

theorem busy_out {m cm : Str → Option Value} {a : Addr} (h : a ∉ Busy env s₀ kp (adrs env m cm loc)) : s₀.heap.get? a = none ∧ a ∉ kp.map (·.1) ∧ a ≠ env.locals ∧ a ∉ adrs env m cm loc := by
  unfold Busy at h
  simp only [List.mem_cons, List.mem_append, not_or] at h
  obtain ⟨h1, ⟨h2, h3⟩, h4⟩ := h
  refine ⟨?_, h2, h1, h3⟩
  cases e : s₀.heap.get? a with
  | none => rfl
  | some o => exact absurd (List.mem_filter.mpr ⟨List.mem_range.mpr (Heap.lt_size e), by rw [e]; rfl⟩) h4

theorem flat_rep {h : Heap} {v : Value} {p : PV} (r : Rep prog w bad h v p) (hp : p.flat = false) {a : Addr} (e : v = .ref a) : a ∉ bad := by
  cases p with
  | list is => obtain ⟨_, _, e', hb, _⟩ := r; rw [e] at e'; cases e'; exact hb
  | dict f => obtain ⟨_, _, e', hb, _⟩ := r; rw [e] at e'; cases e'; exact hb
  | _ => cases hp

theorem odd_locals {m cm : Str → Option Value} (S : St0 prog w env s₀ kp m cm loc s) : Odd s.heap env.locals := by
  obtain ⟨o, es, ep, ho, hd⟩ := ns_obj S.X.toInCall.ns
  exact ⟨o, ho, (fun its n e => by rw [hd] at e; cases e), .inr (fun vs e => by rw [hd] at e; cases e)⟩
theorem odd_cell {h : Heap} {c : Addr} {v : Option Value} (hc : h.IsCell c v) : Odd h c := by
  obtain ⟨o, ho, hd⟩ := hc
  exact ⟨o, ho, (fun its n e => by rw [hd] at e; cases e), .inr (fun vs e => by rw [hd] at e; cases e)⟩
theorem rep_cell {h : Heap} {c : Addr} {v : Option Value} (hc : h.IsCell c v) {u : Value} {q : PV} (r : Rep prog w bad h u q) (hq : q.flat = false) : u ≠ .ref c := by
  rintro rfl
  obtain ⟨o, ho, hd⟩ := hc
  cases q with
  | list is => obtain ⟨_, _, e, _, ⟨n, ho'⟩, _⟩ := r; cases e; rw [ho] at ho'; cases ho'; cases hd
  | dict f => obtain ⟨_, _, e, _, _, ⟨o', _, _, ho', _, hd', _⟩, _⟩ := r; cases e; rw [ho] at ho'; cases ho'; rw [hd] at hd'; cases hd'
  | _ => cases hq

theorem St0.busy {m cm : Str → Option Value} (S : St0 prog w env s₀ kp m cm loc s) : Live (Busy env s₀ kp (adrs env m cm loc)) s := busy_live S.X S.V S.K

/-- the addresses behind a store -/
theorem adrs_set {m cm m' cm' : Str → Option Value} {x : Str} {v : Value} {p : PV} (h : ∀ y, vl env m' cm' y = if y = x then some v else vl env m cm y) {b : Addr} (hb : b ∈ adrs env m' cm' ((x, p) :: loc)) :
    b ∈ adrs env m cm loc ∨ (p.flat = false ∧ v = .ref b) := by
  obtain ⟨⟨y, q⟩, hq, e⟩ := List.mem_filterMap.mp hb
  split at e
  · rename_i hc
    simp only [h] at e
    by_cases hy : y = x
    · subst hy
      rw [if_pos rfl] at e
      simp only [List.lookup_cons, beq_self_eq_true] at hc
      split at e
      · rename_i a ev
        cases e
        exact .inr ⟨by simpa using hc, Option.some.inj ev⟩
      · cases e
    · rw [if_neg hy] at e
      have hb : (y == x) = false := by simpa using hy
      simp only [List.lookup_cons, hb] at hc
      cases hl : loc.lookup y with
      | none => rw [hl] at hc; cases hc
      | some p' =>
        rw [hl] at hc
        split at e
        · rename_i a ev
          cases e
          exact .inl (mem_adrs hl (by simpa using hc) ev)
        · cases e
  · cases e

/-- a name gets a value: the state behind it, the heap given -/
theorem St0.put {m cm m' cm' : Str → Option Value} (S : St0 prog w env s₀ kp m cm loc s) {x : Str} {v : Value} {p : PV} (h : ∀ y, vl env m' cm' y = if y = x then some v else vl env m cm y)
    (X' : InCallC s₀ env.locals m' env.cells cm' s') (up : ∀ u q, Rep prog w [] s.heap u q → (q.flat = false → u ≠ .ref env.locals) → Rep prog w [] s'.heap u q) (upK : ∀ q ∈ kp, s'.heap.get? q.1 = some q.2)
    (r : Rep prog w (Busy env s₀ kp (adrs env m cm loc)) s'.heap v p) : St0 prog w env s₀ kp m' cm' ((x, p) :: loc) s' where
  X := X'
  V := fun y q e => by
    rw [List.lookup_cons] at e
    rw [h]
    cases hyx : y == x with
    | true =>
      rw [hyx] at e; cases e
      rw [if_pos (beq_iff_eq.mp hyx)]
      exact ⟨v, rfl, r.mono (fun _ q => nomatch q), fun hp a ea => let z := busy_out (flat_rep r hp ea); ⟨z.1, z.2.1, z.2.2.1⟩⟩
    | false =>
      rw [hyx] at e
      rw [if_neg (by intro e'; rw [e'] at hyx; simp at hyx)]
      obtain ⟨u, e1, r1, f1⟩ := S.V y q e
      exact ⟨u, e1, up u q r1 (fun hq e => (f1 hq _ e).2.2 rfl), f1⟩
  P := fun y z q q' a hyz e e' hq hq' h1 h2 => by
    rw [List.lookup_cons] at e e'
    rw [h] at h1 h2
    cases hyx : y == x with
    | true =>
      have hy := beq_iff_eq.mp hyx
      have hzx : (z == x) = false := by
        cases hz : z == x with
        | false => rfl
        | true => exact absurd (hy.trans (beq_iff_eq.mp hz).symm) hyz
      rw [hyx] at e; rw [hzx] at e'; cases e
      rw [if_pos hy] at h1
      rw [if_neg (by intro e''; rw [e''] at hzx; simp at hzx)] at h2
      exact (busy_out (flat_rep r hq (Option.some.inj h1))).2.2.2 (mem_adrs e' hq' h2)
    | false =>
      rw [hyx] at e
      rw [if_neg (by intro e''; rw [e''] at hyx; simp at hyx)] at h1
      cases hzx : z == x with
      | true =>
        rw [hzx] at e'; cases e'
        rw [if_pos (beq_iff_eq.mp hzx)] at h2
        exact (busy_out (flat_rep r hq' (Option.some.inj h2))).2.2.2 (mem_adrs e hq h1)
      | false =>
        rw [hzx] at e'
        rw [if_neg (by intro e''; rw [e''] at hzx; simp at hzx)] at h2
        exact S.P y z q q' a hyz e e' hq hq' h1 h2
  K := fun q hq => ⟨upK q hq, (S.K q hq).2⟩

/-- a store -/
theorem St0.store {m cm : Str → Option Value} (S : St0 prog w env s₀ kp m cm loc s) (hk : env.scope.kind = .function) {x : Str} {v : Value} {p : PV} (hx : Own env x) {Q : Unit → Shared → Prop} {E : Value → Shared → Prop} {M : Model}
    (r : Rep prog w (Busy env s₀ kp (adrs env m cm loc)) s.heap v p)
    (h : ∀ s' m' cm', St0 prog w env s₀ kp m' cm' ((x, p) :: loc) s' → (∀ b, b ∈ adrs env m' cm' ((x, p) :: loc) → b ∈ adrs env m cm loc ∨ (p.flat = false ∧ v = .ref b)) → (∀ B u q, env.locals ∈ B → Rep prog w B s.heap u q → Rep prog w B s'.heap u q) → Q () s') :
    wpAny M A (storeName env x v) Q E s := by
  have X := S.X
  rcases hx with hx | ⟨hx, hc⟩
  · refine wpAny_storeName_local hx X.toInCall.ns (fun h' hn' hs' => ?_) (by rw [hk]; rfl)
    have hvl : ∀ y, vl env (fun z => if z = x then some v else m z) cm y = if y = x then some v else vl env m cm y := fun y => vl_set_local hx
    have up : ∀ B u q, Rep prog w B s.heap u q → (q.flat = false → u ≠ .ref env.locals) → Rep prog w B h' u q := fun B u q r hne => r.odd hs'.extBut (odd_locals S) hne
    refine h { s with heap := h', toks := s.toks + 1 } _ cm (S.put (s' := { s with heap := h', toks := s.toks + 1 }) hvl ⟨⟨?_, hn', fun b o e => ?_, X.toInCall.fresh⟩, fun k c hc => ?_, X.apart, X.above⟩ (up []) (fun q hq => (hs'.2 _ (S.K q hq).2.1).trans (S.K q hq).1)
      (up _ _ _ r fun hp e => flat_rep r hp e (List.mem_cons_self ..))) (fun b hb => adrs_set hvl hb) fun B u q hB r => up B u q r fun hq e => flat_rep r hq e hB
    · obtain ⟨h₁, tk, rfl⟩ := X.toInCall.same
      exact ⟨h', _, rfl⟩
    · exact hs'.extBut b o (Nat.ne_of_lt (Nat.lt_of_lt_of_le (Heap.lt_size e) X.toInCall.fresh)) (X.toInCall.keep b o e)
    · exact (X.cell k c hc).sameBut hs' (Nat.ne_of_gt (X.above k c (mem_of_lookup hc)))
  · obtain ⟨c, hc'⟩ := Option.isSome_iff_exists.mp hc
    have hLc := X.above x c (mem_of_lookup hc')
    have hcell := X.cell x c hc'
    refine wpAny_storeName_cell hk hx hc' hcell fun h' hv hs' => ?_
    have hvl : ∀ y, vl env m (fun z => if z = x then some v else cm z) y = if y = x then some v else vl env m cm y := fun y => vl_set_cell hx hc
    have up : ∀ B u q, Rep prog w B s.heap u q → Rep prog w B h' u q := fun B u q r => r.odd hs'.extBut (odd_cell hcell) fun hq => rep_cell hcell r hq
    refine h { s with heap := h' } m _ (S.put (s' := { s with heap := h' }) hvl ⟨⟨?_, X.toInCall.ns.sameBut hs' (Nat.ne_of_lt hLc), fun b o e => ?_, X.toInCall.fresh⟩, fun k c' hk' => ?_, X.apart, X.above⟩ (fun u q r _ => up [] u q r) (fun q hq => ?_) (up _ _ _ r)) (fun b hb => adrs_set hvl hb) fun B u q _ r => up B u q r
    · obtain ⟨h₁, tk, rfl⟩ := X.toInCall.same
      exact ⟨h', _, rfl⟩
    · exact hs'.extBut b o (Nat.ne_of_lt (Nat.lt_trans (Nat.lt_of_lt_of_le (Heap.lt_size e) X.toInCall.fresh) hLc)) (X.toInCall.keep b o e)
    · by_cases hkn : k = x
      · subst hkn
        rw [hc'] at hk'; cases hk'
        simpa using hv
      · rw [if_neg hkn]
        exact (X.cell k c' hk').sameBut hs' fun e => hkn (name_of_addr X.apart (mem_of_lookup hk') (e ▸ mem_of_lookup hc'))
    · refine (hs'.2 _ fun e => (S.K q hq).2.2 x ?_).trans (S.K q hq).1
      rw [e]; exact hc'
end
end B58

namespace B58

section
variable {prog : Program} {w : World} {A : Around} {env : Env} {bad : List Addr} {s s' s₀ : Shared} {D : Dt} {σ loc : List (Str × PV)} {kp : List (Addr × Obj)} {Φ : Flow → Shared → Prop} {E : Value → Shared → Prop} {rest : List Stmt}

theorem Z.nil (h : Φ .next s) : wpAny (model prog w) A (execs [] env) Φ E s := wpAny_execs_nil h
theorem Z.seq {st : Stmt} (h : wpAny (model prog w) A (exec st env) (fun f s' => match f with | .next => wpAny (model prog w) A (execs rest env) Φ E s' | f => Φ f s') E s) : wpAny (model prog w) A (execs (st :: rest) env) Φ E s := wpAny_execs_cons h

/-- a new value goes into a name -/
theorem Z.assign (F : Fx prog w A env s₀ D) (S : St prog w env s₀ kp loc s) {x : Str} {px pos : Pos} {e : Expr} {p : PV} (he : EvF prog w A env s e p) (hx : Own env x) (hw : swapsWith e (some (.Name x px)) pos.line env = pure false)
    (k : ∀ s', St prog w env s₀ kp ((x, p) :: loc) s' → wpAny (model prog w) A (execs rest env) Φ E s') : wpAny (model prog w) A (execs (.Assign [.Name x px] e pos :: rest) env) Φ E s := by
  obtain ⟨m, cm, S⟩ := S
  exact Z.seq (wpAny_Assign_Name (he s _ (Hx.refl _) S.busy s _ _ (Hx.refl _) fun v s₂ k₂ r => (S.kept k₂).store F.kind hx r fun s' m' cm' S' _ _ => k s' ⟨m', cm', S'⟩) hw)

/-- a comprehension into a local, the way that stores are exchanged -/
theorem Z.comp (F : Fx prog w A env s₀ D) (S : St prog w env s₀ kp loc s) (C : Cx prog w A env s D loc) {scope : Scope} {cl : List (Str × Addr)} (κ : List (Str × PV)) {x y : Str} {px py pos spos : Pos} {ifs : List Expr} {elt iter : Expr} {p : PV} {items : List Int} {pz : Int → Bool} {g : Int → Int}
    (hsw : swapsWith (.ListComp elt [⟨.Name x px, iter, ifs, 0⟩] scope pos) (some (.Name y py)) spos.line env = pure true)
    (hy : env.kindOf y = some .local)
    (hclos : closureFor scope env = pure cl) (hκ : Sees env scope cl loc κ) (hcell : ∀ y ∈ scope.names, y.2 ≠ .cell) (hkind : scope.kind = .function)
    (hnames : ∀ y ∈ scope.names, y.2 = .local → scope.names.lookup y.1 = some .local) (hx : scope.names.lookup x = some .local) (hd : (x == ("__debug__" : Str)) = false)
    (hs : ∀ x, foldedSetIterable iter env x = pure x) (he : Ev prog w A env [] s iter p) (hS : SrcR prog w A p items) (hz : items.length ≤ 16777216)
    (H : CompOk prog w A env s D scope cl κ x ifs elt items pz g)
    (k : ∀ s', St prog w env s₀ kp ((y, .list ((items.filter pz).map g)) :: loc) s' → wpAny (model prog w) A (execs rest env) Φ E s') :
    wpAny (model prog w) A (execs (.Assign [.Name y py] (.ListComp elt [⟨.Name x px, iter, ifs, 0⟩] scope pos) spos :: rest) env) Φ E s := by
  obtain ⟨m, cm, S⟩ := S
  refine Z.seq (wpAny_Assign_ListComp_free (cTest pz) (cElt g) hsw hclos hcell hkind hnames hx hy (by rw [F.kind]; rfl)
    (he s _ _ (Hx.refl _) fun v s₂ k₂ rv => hS s₂ v _ _ rv fun I fp wr P Sw s₃ k₃ W hP hst hfp hwr hfp' =>
      ⟨I, fp, wr, items.length, P, Sw, m, rfl, W, by rw [sizeLine_eq]; exact hz, hst, hfp, fun q => ?_, (S.kept (k₂.trans k₃)).X.toInCall.ns, comp_quiet C hκ hkind hx hd H k₂.hx hP k₃ hwr, fun Dd h' tk ys vs hD _ hl hlen hv hF hn hk => ?_⟩) hs)
  · obtain ⟨o, _, _, ho, _⟩ := (S.kept k₂).X.toInCall.ns
    rw [hwr _ q] at ho; cases ho
  · have S₂ := S.kept k₂
    have X := S₂.X
    have hout : ∀ b o, b ≠ env.locals → s₂.heap.get? b = some o → h'.get? b = some o := fun b o hb e => hk b o hb (fun q => by rw [hwr b q] at e; cases e) (k₃.get b o e)
    have hs' : Heap.ExtBut env.locals s₂.heap h' := fun b o hb e => hout b o hb e
    have hvl : ∀ z, vl env (fun z => if z = y then some (.ref Dd) else m z) cm z = if z = y then some (.ref Dd) else vl env m cm z := fun z => vl_set_local hy
    refine k _ ⟨_, cm, S₂.put (s' := { s₃ with heap := h', toks := tk }) (v := .ref Dd) hvl ⟨⟨?_, hn, fun b o e => ?_, X.toInCall.fresh⟩, fun n c hc => ?_, X.apart, X.above⟩ (fun u q r hne => r.odd hs' (odd_locals S₂) hne) (fun q hq => hout _ _ (S₂.K q hq).2.1 (S₂.K q hq).1) ?_⟩
    · obtain ⟨h₁, tk₁, rfl⟩ := X.toInCall.same
      obtain ⟨h₂, tk₂, rfl, _⟩ := k₃
      exact ⟨h', _, rfl⟩
    · exact hout b o (Nat.ne_of_lt (Nat.lt_of_lt_of_le (Heap.lt_size e) X.toInCall.fresh)) (X.toInCall.keep b o e)
    · obtain ⟨o, ho, hd⟩ := X.cell n c hc
      exact ⟨o, hout c o (Nat.ne_of_gt (X.above n c (mem_of_lookup hc))) ho, hd⟩
    · refine ⟨Dd, ys.toList, rfl, fun q => ?_, by rw [Array.toArray_toList]; exact hl, paired_list (items_are hlen hv hP) hF⟩
      obtain ⟨o, ho⟩ := (S₂.kept k₃).busy _ q
      rw [hD] at ho; cases ho

theorem Z.ret {e : Expr} {pos : Pos} {p : PV} (he : Ev prog w A env bad s e p) (h : ∀ v s', Kp s s' → Rep prog w bad s'.heap v p → Φ (.ret v) s') : wpAny (model prog w) A (execs (.Return (some e) pos :: rest) env) Φ E s :=
  Z.seq (wpAny_Return_some (he s _ _ (Hx.refl _) fun v s₂ k₂ r => h v s₂ k₂ r))

/-- a name's value, as the call hands it on -/
theorem St.name (S : St prog w env s₀ kp loc s) (F : Fx prog w A env s₀ D) (hd : (loc.all fun q => !(q.1 == ("__debug__" : Str))) = true) {x : Str} {pos : Pos} {p : PV} (h : loc.lookup x = some p) (hb : Live bad s₀) : Ev prog w A env bad s (.Name x pos) p := fun s₁ Q E k hQ => by
  have C := S.cx F hd
  obtain ⟨m, cm, S⟩ := S
  obtain ⟨v, e1, r, f⟩ := S.V x p h
  have hdx : (x == ("__debug__" : Str)) = false := by
    have := List.all_eq_true.mp hd (x, p) (mem_of_lookup h)
    simpa using this
  have r' : Rep prog w bad s.heap v p := by
    cases hp : p.flat with
    | true => exact r.flat hp
    | false =>
      have hn : ∀ a, v = .ref a → a ∉ bad := fun a ea q => by
        obtain ⟨o, ho⟩ := hb a q
        rw [(f hp a ea).1] at ho; cases ho
      cases p with
      | list is => obtain ⟨a, vs, rfl, _, q⟩ := r; exact ⟨a, vs, rfl, hn a rfl, q⟩
      | dict g => obtain ⟨a, vs, rfl, _, q⟩ := r; exact ⟨a, vs, rfl, hn a rfl, q⟩
      | _ => cases hp
  unfold vl at e1
  split at e1
  · rename_i hk
    exact wpAny_Name (wpAny_loadName_local F.kind hk (S.X.toInCall.ns.keeps k.get) e1 (hQ _ _ (Kp.refl _) (r'.up k.get))) hdx
  · split at e1
    · rename_i hk
      obtain ⟨hk, hc⟩ := hk
      obtain ⟨c, hc⟩ := Option.isSome_iff_exists.mp hc
      exact wpAny_Name (wpAny_loadName_cell F.kind hk hc ((e1 ▸ S.X.cell x c hc).keeps k.get) (hQ _ _ (Kp.refl _) (r'.up k.get))) hdx
    · cases e1

theorem Z.ite (S : St prog w env s₀ kp loc s) {t : Expr} {b : Bool} {body orelse : List Stmt} {pos : Pos} (ht : Tr prog w A env s t b)
    (h1 : b = true → ∀ s', St prog w env s₀ kp loc s' → wpAny (model prog w) A (execs body env) (fun f s' => match f with | .next => wpAny (model prog w) A (execs rest env) Φ E s' | f => Φ f s') E s')
    (h2 : b = false → ∀ s', St prog w env s₀ kp loc s' → wpAny (model prog w) A (execs orelse env) (fun f s' => match f with | .next => wpAny (model prog w) A (execs rest env) Φ E s' | f => Φ f s') E s') :
    wpAny (model prog w) A (execs (.If t body orelse pos :: rest) env) Φ E s :=
  Z.seq (wpAny_If (ht s _ _ (Hx.refl _) fun s₂ k₂ => by
    cases b with
    | true => exact h1 rfl s₂ (S.kept k₂)
    | false => exact h2 rfl s₂ (S.kept k₂)))
/-- an if without an else whose test fails -/
theorem Z.skip (S : St prog w env s₀ kp loc s) {t : Expr} {body : List Stmt} {pos : Pos} (ht : Tr prog w A env s t false)
    (h : ∀ s', St prog w env s₀ kp loc s' → wpAny (model prog w) A (execs rest env) Φ E s') : wpAny (model prog w) A (execs (.If t body [] pos :: rest) env) Φ E s :=
  Z.ite S ht (fun e => by cases e) fun _ s' S' => Z.nil (h s' S')

/-- a while: what holds at each turn, and a measure -/
theorem Z.whl {τ : Type} (L : τ → List (Str × PV)) (I : τ → Prop) (μ : τ → Nat) (b : τ → Bool) (a₀ : τ) (S : St prog w env s₀ kp (L a₀) s) (h0 : I a₀) {t : Expr} {body : List Stmt} {pos : Pos}
    (ht : ∀ a s, I a → St prog w env s₀ kp (L a) s → Tr prog w A env s t (b a))
    (hb : ∀ a s (Φ' : Flow → Shared → Prop) (E' : Value → Shared → Prop), I a → b a = true → St prog w env s₀ kp (L a) s → (∀ a' s', I a' → μ a' < μ a → St prog w env s₀ kp (L a') s' → Φ' .next s') → wpAny (model prog w) A (execs body env) Φ' E' s)
    (hd : ∀ a s, I a → b a = false → St prog w env s₀ kp (L a) s → wpAny (model prog w) A (execs rest env) Φ E s) :
    wpAny (model prog w) A (execs (.While t body [] pos :: rest) env) Φ E s := by
  refine Z.seq (wpAny_While (codeAny_whileLoop (fun n s => ∃ a, I a ∧ n = μ a ∧ St prog w env s₀ kp (L a) s) ?_ (μ a₀) ⟨a₀, h0, rfl, S⟩))
  rintro n s₁ ⟨a, ha, rfl, S₁⟩
  refine ht a s₁ ha S₁ s₁ _ _ (Hx.refl _) fun s₂ k₂ => ?_
  cases hba : b a with
  | true => exact hb a s₂ _ _ ha hba (S₁.kept k₂) fun a' s' ha' hlt S' => ⟨μ a', hlt, a', ha', rfl, S'⟩
  | false => exact wpAny_execs_nil (hd a s₂ ha hba (S₁.kept k₂))

/-- a value that a for walks: one iterator alone -/
def SrcF (prog : Program) (w : World) (A : Around) (p : PV) (items : List Int) : Prop :=
  ∀ (s : Shared) (v : Value) (Q : Value → Shared → Prop) (E : Value → Shared → Prop), Rep prog w [] s.heap v p →
    (∀ I (P : Nat → Value → Prop) (Sw : Nat → Heap → Prop) s₂, Kp s s₂ → Walks prog w A I [I] [I] items.length P Sw → (∀ i v, P i v → i < items.length ∧ ∃ t, v = .int (items.getD i 0) t) → Sw 0 s₂.heap →
      s.heap.get? I = none → (∀ i h, Sw i h → Odd h I) → Q (.ref I) s₂) → wpAny (model prog w) A (pyIter v) Q E s

theorem SrcF.range (hh : A.handled = none) {a b c : Int} {n : Nat} (hs : Builtin.Range.small a b c = true) (hn : Builtin.Range.rangeSize a b c = n) : SrcF prog w A (.range a b c) (rng a c n) := fun s v Q E rv hQ => by
  obtain ⟨r, t, u, x, rfl, hr⟩ := rv
  refine wpAny_pyIter_range hr hs (hQ _ (fun i v => i < n ∧ ∃ t, v = .int (a + i * c) t) (fun i h => IsRangeIter h s.heap.objs.size (a + (i : Nat) * c) ((n : Int) - (i : Nat)) c) _ (Kp.push _ _ _) ?_ ?_ ?_ (get_new s) ?_)
  · rw [rng_len]; exact (Walks.range hh _ a c n).bound
  · rintro i v ⟨hi, t, rfl⟩
    exact ⟨by rw [rng_len]; exact hi, t, by rw [rng_get a c hi]⟩
  · show IsRangeIter _ _ _ _ _
    rw [hn]; simpa using Heap.get?_push_size _ rfl
  · intro i h hi
    exact ⟨_, hi, (fun _ _ e => by cases e), .inl (show Value.type "range_iterator" ≠ Value.type "range" by decide)⟩
theorem SrcF.bytes (hh : A.handled = none) {b : List UInt8} : SrcF prog w A (.bytes b) (bInts b) := fun s v Q E rv hQ => by
  obtain ⟨t, rfl⟩ := rv
  have W := PySem.W.KBw.walks (prog := prog) (w := w) hh s.heap.objs.size b.toArray t
  have hz : b.toArray.size = (bInts b).length := by simp [bInts]
  rw [hz] at W
  refine PySem.W.KBw.pyIter_bytes (hQ _ _ _ _ (Kp.push _ _ _) W ?_ ⟨_, Heap.get?_push_size _ rfl, rfl, rfl⟩ (get_new s) ?_)
  · rintro i v ⟨c, u, e, rfl⟩
    have e' : b[i]? = some c := by simpa using e
    refine ⟨by simpa [bInts] using (List.getElem?_eq_some_iff.mp e').1, u, ?_⟩
    rw [List.getD_eq_getElem?_getD]; simp [bInts, e']
  · rintro i h ⟨o, ho, hc, hd⟩
    exact ⟨o, ho, (fun _ _ e => by rw [hd] at e; cases e), .inl (by rw [hc]; decide)⟩

/-- an iterator comes aside -/
theorem St0.aside {m cm : Str → Option Value} (S : St0 prog w env s₀ kp m cm loc s) {I : Addr} {o : Obj} (hn : ∀ o', s.heap.get? I ≠ some o') {s' : Shared} (k : Kp s s') (ho : s'.heap.get? I = some o) : St0 prog w env s₀ ((I, o) :: kp) m cm loc s' := by
  have hn' : s.heap.get? I = none := by
    cases e : s.heap.get? I with
    | none => rfl
    | some o' => exact absurd e (hn o')
  have S' := S.kept k
  refine ⟨S'.X, fun x p e => ?_, S'.P, fun q hq => ?_⟩
  · obtain ⟨v, e1, r, f⟩ := S.V x p e
    refine ⟨v, e1, r.up k.get, fun hp a ea => ⟨(f hp a ea).1, ?_, (f hp a ea).2.2⟩⟩
    simp only [List.map_cons, List.mem_cons, not_or]
    refine ⟨?_, (f hp a ea).2.1⟩
    rintro rfl
    subst ea
    cases p with
    | list is => obtain ⟨_, _, e, _, ⟨n, ho'⟩, _⟩ := r; cases e; exact hn _ ho'
    | dict g => obtain ⟨_, _, e, _, _, ⟨o', _, _, ho', _⟩, _⟩ := r; cases e; exact hn _ ho'
    | _ => cases hp
  · rcases List.mem_cons.mp hq with rfl | hq
    · refine ⟨ho, ?_, fun n hm => ?_⟩
      · rintro rfl
        obtain ⟨o', _, _, ho', _⟩ := S.X.toInCall.ns
        exact hn _ ho'
      · obtain ⟨o', ho', _⟩ := S.X.cell n I hm
        exact hn _ ho'
    · exact S'.K q hq

/-- an iterator goes back -/
theorem St0.back {m cm : Str → Option Value} {q : Addr × Obj} (S : St0 prog w env s₀ (q :: kp) m cm loc s) : St0 prog w env s₀ kp m cm loc s :=
  ⟨S.X, fun x p e => let ⟨v, e1, r, f⟩ := S.V x p e; ⟨v, e1, r, fun hp a ea => ⟨(f hp a ea).1, fun hm => (f hp a ea).2.1 (List.mem_cons_of_mem _ hm), (f hp a ea).2.2⟩⟩, S.P, fun q hq => S.K q (List.mem_cons_of_mem _ hq)⟩
/-- an iterator takes a step -/
theorem St0.step {m cm : Str → Option Value} {I : Addr} {o o' : Obj} (S : St0 prog w env s₀ ((I, o) :: kp) m cm loc s) (hI : Odd s.heap I) (hI0 : s₀.heap.get? I = none) (hIk : I ∉ kp.map (·.1)) {h' : Heap} {tk : Nat} (hk : ∀ b o, b ∉ [I] → s.heap.get? b = some o → h'.get? b = some o) (ho : h'.get? I = some o') :
    St0 prog w env s₀ ((I, o') :: kp) m cm loc { s with heap := h', toks := tk } := by
  have hK := S.K (I, o) (List.mem_cons_self ..)
  have hx : Heap.ExtBut I s.heap h' := fun b o hb e => hk b o (fun q => hb (List.mem_singleton.mp q)) e
  refine ⟨⟨⟨?_, S.X.toInCall.ns.extBut hx (fun e => hK.2.1 e.symm), fun b o e => ?_, S.X.toInCall.fresh⟩, fun n c e => ?_, S.X.apart, S.X.above⟩, fun x p e => ?_, S.P, fun q hq => ?_⟩
  · obtain ⟨h₁, tk₁, rfl⟩ := S.X.toInCall.same
    exact ⟨h', _, rfl⟩
  · exact hk b o (fun q => by rw [List.mem_singleton.mp q, hI0] at e; cases e) (S.X.toInCall.keep b o e)
  · obtain ⟨oc, hoc, hd⟩ := S.X.cell n c e
    exact ⟨oc, hx c oc (fun e' => hK.2.2 n (e' ▸ e)) hoc, hd⟩
  · obtain ⟨v, e1, r, f⟩ := S.V x p e
    exact ⟨v, e1, r.odd hx hI fun hp ev => (f hp I ev).2.1 (by simp), fun hp a ea => let z := f hp a ea; ⟨z.1, by simpa using z.2.1, z.2.2⟩⟩
  · rcases List.mem_cons.mp hq with rfl | hq
    · exact ⟨ho, hK.2⟩
    · exact ⟨hx _ _ (fun e => hIk (e ▸ List.mem_map_of_mem hq)) (S.K q (List.mem_cons_of_mem _ hq)).1, (S.K q (List.mem_cons_of_mem _ hq)).2⟩

/-- an iterator is done -/
theorem St0.gone {m cm : Str → Option Value} {I : Addr} {o : Obj} (S : St0 prog w env s₀ ((I, o) :: kp) m cm loc s) (hI : Odd s.heap I) (hI0 : s₀.heap.get? I = none) (hIk : I ∉ kp.map (·.1)) {h' : Heap} {tk : Nat} (hk : ∀ b o, b ∉ [I] → s.heap.get? b = some o → h'.get? b = some o) :
    St0 prog w env s₀ kp m cm loc { s with heap := h', toks := tk } := by
  have hK := S.K (I, o) (List.mem_cons_self ..)
  have hx : Heap.ExtBut I s.heap h' := fun b o hb e => hk b o (fun q => hb (List.mem_singleton.mp q)) e
  refine ⟨⟨⟨?_, S.X.toInCall.ns.extBut hx (fun e => hK.2.1 e.symm), fun b o e => ?_, S.X.toInCall.fresh⟩, fun n c e => ?_, S.X.apart, S.X.above⟩, fun x p e => ?_, S.P, fun q hq => ?_⟩
  · obtain ⟨h₁, tk₁, rfl⟩ := S.X.toInCall.same
    exact ⟨h', _, rfl⟩
  · exact hk b o (fun q => by rw [List.mem_singleton.mp q, hI0] at e; cases e) (S.X.toInCall.keep b o e)
  · obtain ⟨oc, hoc, hd⟩ := S.X.cell n c e
    exact ⟨oc, hx c oc (fun e' => hK.2.2 n (e' ▸ e)) hoc, hd⟩
  · obtain ⟨v, e1, r, f⟩ := S.V x p e
    exact ⟨v, e1, r.odd hx hI fun hp ev => (f hp I ev).2.1 (by simp), fun hp a ea => let z := f hp a ea; ⟨z.1, fun hm => z.2.1 (List.mem_cons_of_mem _ hm), z.2.2⟩⟩
  · exact ⟨hx _ _ (fun e => hIk (e ▸ List.mem_map_of_mem hq)) (S.K q (List.mem_cons_of_mem _ hq)).1, (S.K q (List.mem_cons_of_mem _ hq)).2⟩

theorem Z.for {τ : Type} (F : Fx prog w A env s₀ D) (L : τ → List (Str × PV)) (I : Nat → τ → Prop) (a₀ : τ) (S : St prog w env s₀ kp (L a₀) s) (h0 : I 0 a₀) {x : Str} {px pos : Pos} {iter : Expr} {body : List Stmt} {p : PV} {items : List Int}
    (hx : env.kindOf x = some .local) (hs : ∀ x, foldedSetIterable iter env x = pure x) (he : Ev prog w A env [] s iter p) (hS : SrcF prog w A p items)
    (hb : ∀ i a s kp (Φ' : Flow → Shared → Prop) (E' : Value → Shared → Prop), i < items.length → I i a → St prog w env s₀ kp ((x, .int (items.getD i 0)) :: L a) s → (∀ a' s', I (i + 1) a' → St prog w env s₀ kp (L a') s' → Φ' .next s') → wpAny (model prog w) A (execs body env) Φ' E' s)
    (hd : ∀ a s, I items.length a → St prog w env s₀ kp (L a) s → wpAny (model prog w) A (execs rest env) Φ E s) :
    wpAny (model prog w) A (execs (.For (.Name x px) iter body [] pos :: rest) env) Φ E s := by
  obtain ⟨m, cm, S⟩ := S
  refine Z.seq (wpAny_For (he s _ _ (Hx.refl _) fun v s₁ k₁ rv => hS s₁ v _ _ rv fun J P Sw s₂ k₂ W hP hst hJ hodd => ?_) hs)
  have S₁ := S.kept k₁
  have hs0 : s₀.heap.get? J = none := by
    cases e : s₀.heap.get? J with
    | none => rfl
    | some o => rw [S₁.X.toInCall.keep _ _ e] at hJ; cases hJ
  have hJk : J ∉ kp.map (·.1) := fun hm => by
    obtain ⟨q, hq, e⟩ := List.mem_map.mp hm
    have := (S₁.K q hq).1
    rw [e, hJ] at this; cases this
  obtain ⟨oJ, hoJ, _⟩ := hodd 0 _ hst
  have S₂ := S₁.aside (I := J) (o := oJ) (fun o e => by rw [hJ] at e; cases e) k₂ hoJ
  refine codeAny_forLoop (fun n s => ∃ i a o, n = items.length + 1 - i ∧ i ≤ items.length ∧ I i a ∧ Sw i s.heap ∧ St prog w env s₀ ((J, o) :: kp) (L a) s) ?_ (items.length + 1) ⟨0, a₀, oJ, rfl, Nat.zero_le _, h0, hst, m, cm, S₂⟩
  rintro n s₃ ⟨i, a, o, rfl, hi, hI, hst, m, cm, S₃⟩
  rcases Nat.lt_or_ge i items.length with hlt | hge
  · refine W.item i s₃ _ _ hlt hst fun v h' tk hPv hst' hk => ?_
    obtain ⟨o', ho', _⟩ := hodd (i + 1) _ hst'
    have S₄ := S₃.step (hodd i _ hst) hs0 hJk (tk := tk) hk ho'
    obtain ⟨_, t, rfl⟩ := hP i v hPv
    refine wpAny_assign_Name (S₄.store (p := .int (items.getD i 0)) F.kind (.inl hx) ⟨t, rfl⟩ fun s₅ m' cm' S₅ _ _ => ?_)
    refine hb i a s₅ _ _ _ hlt hI ⟨m', cm', S₅⟩ fun a' s₆ hI' S₆ => ?_
    obtain ⟨m6, cm6, S6⟩ := S₆
    exact ⟨items.length + 1 - (i + 1), by omega, i + 1, a', o', rfl, hlt, hI', W.frame _ _ _ hst' fun b hb ob e => (by
      rw [List.mem_singleton.mp hb, ho'] at e; cases e
      rw [List.mem_singleton.mp hb]; exact (S6.K (J, o') (List.mem_cons_self ..)).1), m6, cm6, S6⟩
  · have hin : i = items.length := by omega
    subst hin
    exact W.done s₃ _ _ hst fun h' tk hk => wpAny_execs_nil (hd a _ hI ⟨m, cm, S₃.gone (hodd _ _ hst) hs0 hJk hk⟩)
end
end B58

namespace B58

/-- two values that are lists or dicts are two -/
def Apart (x y : Value × PV) : Prop := ∀ a, x.2.flat = false → y.2.flat = false → x.1 = .ref a → y.1 ≠ .ref a
theorem Apart.symm {x y : Value × PV} (h : Apart x y) : Apart y x := fun a hy hx e e' => h a hx hy e' e

section
variable {prog : Program} {w : World} {A : Around} {env : Env} {bad : List Addr} {s s' s₀ : Shared} {D : Dt} {σ loc : List (Str × PV)} {kp : List (Addr × Obj)} {Φ : Flow → Shared → Prop} {E : Value → Shared → Prop} {rest : List Stmt}

theorem Rep.away {B B' : List Addr} {h : Heap} {v : Value} {p : PV} (r : Rep prog w B h v p) (hn : p.flat = false → ∀ a, v = .ref a → a ∉ B') : Rep prog w B' h v p := by
  cases p with
  | list is => obtain ⟨a, vs, rfl, _, q⟩ := r; exact ⟨a, vs, rfl, hn rfl a rfl, q⟩
  | dict g => obtain ⟨a, vs, rfl, _, q⟩ := r; exact ⟨a, vs, rfl, hn rfl a rfl, q⟩
  | _ => exact r

theorem rep_live {B : List Addr} {h : Heap} {v : Value} {p : PV} (r : Rep prog w B h v p) (hp : p.flat = false) {a : Addr} (e : v = .ref a) : ∃ o, h.get? a = some o := by
  subst e
  cases p with
  | list is => obtain ⟨_, _, e, _, ⟨n, ho⟩, _⟩ := r; cases e; exact ⟨_, ho⟩
  | dict f => obtain ⟨_, _, e, _, _, ⟨o, _, _, ho, _⟩, _⟩ := r; cases e; exact ⟨o, ho⟩
  | _ => cases hp

/-- values written one after the other, each new one new -/
inductive EvTs (prog : Program) (w : World) (A : Around) (env : Env) (s : Shared) : List Expr → List PV → Prop
  | nil : EvTs prog w A env s [] []
  | cons {e es p ps} : EvF prog w A env s e p → starEach (e :: es) env = (false, eval e env) :: starEach es env → EvTs prog w A env s es ps → EvTs prog w A env s (e :: es) (p :: ps)

theorem EvTs.sound {es : List Expr} {ps : List PV} (h : EvTs prog w A env s es ps) {pos : Pos} : ∀ (B : List Addr) (s₁ : Shared) (Q : List Value → Shared → Prop) (E : Value → Shared → Prop), Hx s s₁ → Live B s₁ →
    (∀ (l : List (Value × PV)) s₂, Kp s₁ s₂ → l.map (·.2) = ps → (∀ q ∈ l, Rep prog w B s₂.heap q.1 q.2) → l.Pairwise Apart → Q (l.map (·.1)) s₂) → wpAny (model prog w) A (spliced (backTo pos (starEach es env))) Q E s₁ := by
  induction h with
  | nil => intro B s₁ Q E k hB hQ; exact wpAny_items_nil (hQ [] _ (Kp.refl _) rfl (fun _ h => nomatch h) .nil)
  | @cons e es p ps he hs _ ih =>
    intro B s₁ Q E k hB hQ
    refine wpAny_items_cons (he s₁ B k hB s₁ _ _ (Hx.refl _) fun v s₂ k₂ r => ?_) hs
    by_cases hp : p.flat = true ∨ ∀ a, v ≠ .ref a
    · refine ih B s₂ _ _ (k.trans k₂) (hB.up k₂.hx) fun l s₃ k₃ hl hr hw => hQ ((v, p) :: l) s₃ (k₂.trans k₃) (by simp [hl]) ?_ (.cons ?_ hw)
      · intro q hq
        rcases List.mem_cons.mp hq with rfl | hq
        · exact r.up k₃.get
        · exact hr q hq
      · intro q hq a h1 h2 e
        rcases hp with hp | hp
        · exact absurd hp (by rw [show p.flat = false from h1]; decide)
        · exact absurd e (hp a)
    · have hp' : p.flat = false := by
        cases e : p.flat with
        | false => rfl
        | true => exact absurd (.inl e) hp
      have ⟨a, ea⟩ : ∃ a, v = .ref a := Classical.byContradiction fun hn => hp (.inr fun a e => hn ⟨a, e⟩)
      subst ea
      have hB' : Live (a :: B) s₂ := fun b hb => by
        rcases List.mem_cons.mp hb with rfl | hb
        · exact rep_live r hp' rfl
        · exact (hB.up k₂.hx) b hb
      refine ih (a :: B) s₂ _ _ (k.trans k₂) hB' fun l s₃ k₃ hl hr hw => hQ ((.ref a, p) :: l) s₃ (k₂.trans k₃) (by simp [hl]) ?_ (.cons ?_ hw)
      · intro q hq
        rcases List.mem_cons.mp hq with rfl | hq
        · exact r.up k₃.get
        · exact (hr q hq).mono fun b hb => List.mem_cons_of_mem _ hb
      · intro q hq b h1 h2 e e'
        cases e
        exact flat_rep (hr q hq) h2 e' (List.mem_cons_self ..)

/-- stores, one after the other -/
theorem storeAll (hk : env.scope.kind = .function) : ∀ (l : List ((Value → Sem Unit) × Str × Value × PV)) (m cm : Str → Option Value) (loc : List (Str × PV)) (s : Shared) (Q : Unit → Shared → Prop) (E : Value → Shared → Prop),
    St0 prog w env s₀ kp m cm loc s → (∀ q ∈ l, Own env q.2.1) → (∀ q ∈ l, ∀ Q E s, wpAny (model prog w) A (storeName env q.2.1 q.2.2.1) Q E s → wpAny (model prog w) A (q.1 q.2.2.1) Q E s) →
    (∀ q ∈ l, Rep prog w (Busy env s₀ kp (adrs env m cm loc)) s.heap q.2.2.1 q.2.2.2) → (l.map (·.2.2)).Pairwise Apart →
    (∀ s', St prog w env s₀ kp ((l.map fun q => (q.2.1, q.2.2.2)).reverse ++ loc) s' → Q () s') → wpAny (model prog w) A (assignInOrder (l.map (·.1)) (l.map (·.2.2.1))) Q E s
  | [], m, cm, loc, s, Q, E, S, _, _, _, _, h => by
    show wpAny _ _ (assignInOrder [] []) _ _ _
    unfold assignInOrder
    exact wpAny_pure (h s ⟨m, cm, S⟩)
  | (f, x, v, p) :: r, m, cm, loc, s, Q, E, S, hx, hf, hr, hw, h => by
    show wpAny _ _ (assignInOrder (f :: r.map (·.1)) (v :: r.map (·.2.2.1))) _ _ _
    unfold assignInOrder
    obtain ⟨hw1, hw2⟩ := List.pairwise_cons.mp hw
    refine wpAny_bind (wpAny_holding (hf (f, x, v, p) (List.mem_cons_self ..) _ _ _ (S.store hk (p := p) (hx (f, x, v, p) (List.mem_cons_self ..)) (hr (f, x, v, p) (List.mem_cons_self ..)) fun s' m' cm' S' ha hup => ?_)))
    refine storeAll hk r m' cm' _ s' Q E S' (fun q hq => hx q (List.mem_cons_of_mem _ hq)) (fun q hq => hf q (List.mem_cons_of_mem _ hq)) (fun q hq => ?_) hw2 fun s'' S'' => h s'' ?_
    · refine (hup _ _ _ (List.mem_cons_self ..) (hr q (List.mem_cons_of_mem _ hq))).away fun hp a ea hm => ?_
      have hout := busy_out (flat_rep (hr q (List.mem_cons_of_mem _ hq)) hp ea)
      unfold Busy at hm
      simp only [List.mem_cons, List.mem_append] at hm
      rcases hm with hm | (hm | hm) | hm
      · exact hout.2.2.1 hm
      · exact hout.2.1 hm
      · rcases ha a hm with hm | ⟨hp', ev⟩
        · exact hout.2.2.2 hm
        · exact hw1 q.2.2 (List.mem_map_of_mem (f := (·.2.2)) hq) a hp' hp ev ea
      · obtain ⟨_, h2⟩ := List.mem_filter.mp hm
        rw [hout.1] at h2; cases h2
    · simpa using S''

theorem unpack_tup (hh : A.handled = none) {v : Value} {its : List Value} {n : Nat} {Q : List Value → Shared → Prop} {t : Addr} (ht : IsTup s.heap t its.toArray) (hn : n = its.length) (h : ∀ s', Kp s s' → Q its s') : wpAny (model prog w) A (unpackItems (.ref t) n none) Q E s := by
  have hz : n = its.toArray.size := by simpa using hn
  rw [hz]
  refine unpackItems_tuple hh ht fun h' he => ?_
  have k : Kp s { s with heap := h' } := ⟨h', s.toks, rfl, fun b o e => he b o (Nat.ne_of_lt (Heap.lt_size e)) e⟩
  simpa using h _ k

/-- a tuple of ints, unpacked into two names -/
theorem Z.unpack2 (F : Fx prog w A env s₀ D) (S : St prog w env s₀ kp loc s) {x y : Str} {px py tpos pos : Pos} {k : Nat} {e : Expr} {a b : Int} (he : Ev prog w A env [] s e (.tup [a, b])) (hx : Own env x) (hy : Own env y)
    (hs : swapsWithSole [.Tuple [.Name x px, .Name y py] k tpos] e pos.line env = pure false) (hw : swappedStores [.Tuple [.Name x px, .Name y py] k tpos] e env = pure none)
    (hk : ∀ s', St prog w env s₀ kp ((y, .int b) :: (x, .int a) :: loc) s' → wpAny (model prog w) A (execs rest env) Φ E s') : wpAny (model prog w) A (execs (.Assign [.Tuple [.Name x px, .Name y py] k tpos] e pos :: rest) env) Φ E s := by
  obtain ⟨m, cm, S⟩ := S
  refine Z.seq (Assign_Tuple (he s _ _ (Hx.refl _) fun v s₂ k₂ rv => ?_) hs hw)
  obtain ⟨t, vs, rfl, hT, hI⟩ := rv
  cases hI with
  | cons _ ta hI => cases hI with
    | cons _ tb hI =>
      cases hI
      show wpAny _ _ (do standAt tpos; unpack (Value.ref t) [(false, PySem.assign (Expr.Name x px) env), (false, PySem.assign (Expr.Name y py) env)]) _ _ _
      refine wpAny_bind (wpAny_standAt ?_)
      unfold unpack
      refine wpAny_bind (wpAny_holding (unpack_tup (v := .none) F.hh hT rfl fun s₃ k₃ => ?_))
      have S₃ := S.kept (k₂.trans k₃)
      refine storeAll F.kind [(PySem.assign (Expr.Name x px) env, x, .int a ta, .int a), (PySem.assign (Expr.Name y py) env, y, .int b tb, .int b)] m cm loc s₃ _ _ S₃ ?_ ?_ ?_ ?_ fun s' S' => hk s' S'
      · intro q hq
        rcases List.mem_cons.mp hq with rfl | hq
        · exact hx
        · rw [List.mem_singleton.mp hq]; exact hy
      · intro q hq
        rcases List.mem_cons.mp hq with rfl | hq
        · intro Q E s h; exact wpAny_assign_Name h
        · rw [List.mem_singleton.mp hq]; intro Q E s h; exact wpAny_assign_Name h
      · intro q hq
        rcases List.mem_cons.mp hq with rfl | hq
        · exact ⟨_, rfl⟩
        · rw [List.mem_singleton.mp hq]; exact ⟨_, rfl⟩
      · exact .cons (fun q _ c h => by cases h) (.cons (fun q hq => by cases hq) .nil)

/-- a written tuple of two, into two names, in either order -/
theorem Z.tup2 (F : Fx prog w A env s₀ D) (S : St prog w env s₀ kp loc s) {x y : Str} {px py tpos epos pos : Pos} {k k2 : Nat} {e f : Expr} {p q : PV} (he : EvTs prog w A env s [e, f] [p, q]) (hx : Own env x) (hy : Own env y)
    (hs : swapsWithSole [.Tuple [.Name x px, .Name y py] k tpos] (.Tuple [e, f] k2 epos) pos.line env = pure false)
    (hw : swappedStores [.Tuple [.Name x px, .Name y py] k tpos] (.Tuple [e, f] k2 epos) env = pure none ∨ swappedStores [.Tuple [.Name x px, .Name y py] k tpos] (.Tuple [e, f] k2 epos) env = pure (some [x, y]))
    (hxy : (y == x) = false)
    (hk : ∀ s', St prog w env s₀ kp ((x, p) :: (y, q) :: loc) s' → wpAny (model prog w) A (execs rest env) Φ E s') : wpAny (model prog w) A (execs (.Assign [.Tuple [.Name x px, .Name y py] k tpos] (.Tuple [e, f] k2 epos) pos :: rest) env) Φ E s := by
  obtain ⟨m, cm, S⟩ := S
  have ev : ∀ (Q : Value → Shared → Prop) (E : Value → Shared → Prop), (∀ v u s₂ t, Kp s s₂ → IsTup s₂.heap t [v, u].toArray → Rep prog w (Busy env s₀ kp (adrs env m cm loc)) s₂.heap v p → Rep prog w (Busy env s₀ kp (adrs env m cm loc)) s₂.heap u q → Apart (v, p) (u, q) → Q (.ref t) s₂) →
      wpAny (model prog w) A (eval (.Tuple [e, f] k2 epos) env) Q E s := fun Q E hQ => by
    refine wpAny_Tuple (he.sound (Busy env s₀ kp (adrs env m cm loc)) s _ _ (Hx.refl _) S.busy fun l s₂ k₂ hl hr hw => ?_)
    match l, hl with
    | [(v, p'), (u, q')], hl =>
      simp only [List.map_cons, List.map_nil, List.cons.injEq, and_true] at hl
      obtain ⟨rfl, rfl⟩ := hl
      refine ⟨by rw [sizeLine_eq]; simp, hQ v u _ _ (k₂.trans (Kp.push _ _ _)) ⟨_, Heap.get?_push_size _ rfl, rfl, _, rfl⟩ ((hr (v, p') (by simp)).up (Kp.push s₂ _ s₂.toks).get) ((hr (u, q') (by simp)).up (Kp.push s₂ _ s₂.toks).get) ?_⟩
      exact (List.pairwise_cons.mp hw).1 (u, q') (by simp)
  rcases hw with hw | hw
  · refine Z.seq (Assign_Tuple (ev _ _ fun v u s₂ t k₂ hT hv hu hap => ?_) hs hw)
    show wpAny _ _ (do standAt tpos; unpack (Value.ref t) [(false, PySem.assign (Expr.Name x px) env), (false, PySem.assign (Expr.Name y py) env)]) _ _ _
    refine wpAny_bind (wpAny_standAt ?_)
    unfold unpack
    refine wpAny_bind (wpAny_holding (unpack_tup (v := .none) F.hh hT rfl fun s₃ k₃ => ?_))
    have S₃ := S.kept (k₂.trans k₃)
    refine storeAll F.kind [(PySem.assign (Expr.Name x px) env, x, v, p), (PySem.assign (Expr.Name y py) env, y, u, q)] m cm loc s₃ _ _ S₃ ?_ ?_ ?_ ?_ fun s' S' => hk s' (S'.reL ?_)
    · intro z hz
      rcases List.mem_cons.mp hz with rfl | hz
      · exact hx
      · rw [List.mem_singleton.mp hz]; exact hy
    · intro z hz
      rcases List.mem_cons.mp hz with rfl | hz
      · intro Q E s h; exact wpAny_assign_Name h
      · rw [List.mem_singleton.mp hz]; intro Q E s h; exact wpAny_assign_Name h
    · intro z hz
      rcases List.mem_cons.mp hz with rfl | hz
      · exact hv.up k₃.get
      · rw [List.mem_singleton.mp hz]; exact hu.up k₃.get
    · exact .cons (fun z hz => by rw [List.mem_singleton.mp hz]; exact hap) (.cons (fun z hz => by cases hz) .nil)
    · intro z r e
      simp only [List.map_cons, List.map_nil, List.reverse_cons, List.reverse_nil, List.nil_append, List.cons_append, List.lookup_cons] at e ⊢
      cases h1 : z == x with
      | true =>
        have hzx := beq_iff_eq.mp h1
        subst hzx
        have h2 : (z == y) = false := by
          cases h : z == y with
          | false => rfl
          | true => rw [beq_iff_eq.mp h] at hxy; simp at hxy
        rw [h1] at e
        rw [h2]; exact e
      | false => simp only [h1] at e ⊢; exact e
  · refine Z.seq (Assign_Tuple_swapped (ev _ _ fun v u s₂ t k₂ hT hv hu hap => ?_) hs hw)
    refine unpack_tup (v := .none) F.hh hT rfl fun s₃ k₃ => ?_
    have S₃ := S.kept (k₂.trans k₃)
    refine storeAll F.kind [((fun v => bindName env y v), y, u, q), ((fun v => bindName env x v), x, v, p)] m cm loc s₃ _ _ S₃ ?_ ?_ ?_ ?_ fun s' S' => hk s' S'
    · intro z hz
      rcases List.mem_cons.mp hz with rfl | hz
      · exact hy
      · rw [List.mem_singleton.mp hz]; exact hx
    · intro z hz
      rcases List.mem_cons.mp hz with rfl | hz
      · intro Q E s h; exact wpAny_bindName h
      · rw [List.mem_singleton.mp hz]; intro Q E s h; exact wpAny_bindName h
    · intro z hz
      rcases List.mem_cons.mp hz with rfl | hz
      · exact hu.up k₃.get
      · rw [List.mem_singleton.mp hz]; exact hv.up k₃.get
    · exact .cons (fun z hz => by rw [List.mem_singleton.mp hz]; exact hap.symm) (.cons (fun z hz => by cases hz) .nil)
end
end B58

namespace B58

section
variable {prog : Program} {w : World} {A : Around} {env : Env} {bad : List Addr} {s s' s₀ : Shared} {D : Dt} {σ loc : List (Str × PV)} {kp : List (Addr × Obj)} {Φ : Flow → Shared → Prop} {E : Value → Shared → Prop} {rest : List Stmt}

/-- n += e -/
theorem Z.augAdd (F : Fx prog w A env s₀ D) (S : St prog w env s₀ kp loc s) {x : Str} {px pos : Pos} {e : Expr} {a b : Int} (hl : loc.lookup x = some (.int a)) (he : Ev prog w A env [] s e (.int b)) (hx : Own env x)
    (hk : ∀ s', St prog w env s₀ kp ((x, .int (a + b)) :: loc) s' → wpAny (model prog w) A (execs rest env) Φ E s') : wpAny (model prog w) A (execs (.AugAssign (.Name x px) .Add e pos :: rest) env) Φ E s := by
  obtain ⟨m, cm, S⟩ := S
  obtain ⟨v, e1, ⟨t, rfl⟩, _⟩ := S.V x _ hl
  have hload : ∀ Q E, Q (.int a t) s → wpAny (model prog w) A (loadName env x) Q E s := fun Q E hQ => by
    unfold vl at e1
    split at e1
    · rename_i hk'
      exact wpAny_loadName_local F.kind hk' S.X.toInCall.ns e1 hQ
    · split at e1
      · rename_i hk'
        obtain ⟨hk', hc⟩ := hk'
        obtain ⟨c, hc⟩ := Option.isSome_iff_exists.mp hc
        exact wpAny_loadName_cell F.kind hk' hc (e1 ▸ S.X.cell x c hc) hQ
      · cases e1
  refine Z.seq (wpAny_AugAssign_Name (hload _ _ (he s _ _ (Hx.refl _) fun u s₂ k₂ ru => ?_)))
  obtain ⟨t', rfl⟩ := ru
  exact wpAny_iadd_int ((S.kept (k₂.trans (Kp.toks _ _))).store (p := .int (a + b)) F.kind hx ⟨_, rfl⟩ fun s' m' cm' S' _ _ => hk s' ⟨m', cm', S'⟩)

theorem plain_get {h : Heap} {v : Value} {is : List Int} (r : Rep prog w bad h v (.list is)) : ∃ a vs n, v = .ref a ∧ h.get? a = some { cls := .type "list", data := .seq (List.toArray vs) n } ∧ IntsAre vs is :=
  let ⟨a, vs, e, _, ⟨n, ho⟩, hi⟩ := r; ⟨a, vs, n, e, ho, hi⟩

/-- a list of a name is written -/
theorem St0.write {m cm : Str → Option Value} (S : St0 prog w env s₀ kp m cm loc s) {x : Str} {is js : List Int} {a : Addr} {vs us : List Value} (hl : loc.lookup x = some (.list is)) (hv : vl env m cm x = some (.ref a)) (hp : s.heap.PlainList a vs.toArray) (hstill : (loc.all fun q => q.2.still) = true)
    {h' : Heap} (hs : Heap.ExtBut a s.heap h') (hp' : h'.PlainList a us.toArray) (hi : IntsAre us js) : St0 prog w env s₀ kp m cm ((x, .list js) :: loc) { s with heap := h' } := by
  have hx := S.V x _ hl
  obtain ⟨v, e1, r, f⟩ := hx
  rw [hv] at e1; cases e1
  have fa := f rfl a rfl
  have hst : ∀ y q, loc.lookup y = some q → q.still = true := fun y q e => List.all_eq_true.mp hstill (y, q) (mem_of_lookup e)
  refine ⟨⟨⟨?_, S.X.toInCall.ns.extBut hs (fun e => fa.2.2 e.symm), fun b o e => ?_, S.X.toInCall.fresh⟩, fun n c e => ?_, S.X.apart, S.X.above⟩, fun y q e => ?_, fun y z q q' b hyz e e' hq hq' => ?_, fun q hq => ⟨?_, (S.K q hq).2⟩⟩
  · obtain ⟨h₁, tk₁, rfl⟩ := S.X.toInCall.same
    exact ⟨h', _, rfl⟩
  · exact hs b o (fun q => by rw [q, fa.1] at e; cases e) (S.X.toInCall.keep b o e)
  · obtain ⟨oc, hoc, hd⟩ := S.X.cell n c e
    refine ⟨oc, hs c oc (fun e' => ?_) hoc, hd⟩
    obtain ⟨np, ho⟩ := hp
    rw [← e', hoc] at ho; cases ho; cases hd
  · rw [List.lookup_cons] at e
    cases hyx : y == x with
    | true =>
      rw [hyx] at e; cases e
      rw [beq_iff_eq.mp hyx]
      exact ⟨_, hv, ⟨a, us, rfl, by simp, hp', hi⟩, fun _ b eb => by cases eb; exact fa⟩
    | false =>
      rw [hyx] at e
      obtain ⟨u, e2, r2, f2⟩ := S.V y q e
      refine ⟨u, e2, r2.lst hs hp (fun hq eu => ?_) (hst y q e), f2⟩
      subst eu
      exact S.P x y _ q a (fun e' => by rw [e'] at hyx; simp at hyx) hl e rfl hq hv e2
  · rw [List.lookup_cons] at e e'
    have back : ∀ {y : Str} {q : PV}, (match y == x with | true => some (PV.list js) | false => loc.lookup y) = some q → q.flat = false → ∃ q₀, loc.lookup y = some q₀ ∧ q₀.flat = false := fun {y q} e hq => by
      cases hyx : y == x with
      | true => exact ⟨_, by rw [beq_iff_eq.mp hyx]; exact hl, rfl⟩
      | false => rw [hyx] at e; exact ⟨q, e, hq⟩
    obtain ⟨q₀, h1, h2⟩ := back e hq
    obtain ⟨q₁, h3, h4⟩ := back e' hq'
    exact S.P y z q₀ q₁ b hyz h1 h3 h2 h4
  · refine hs _ _ (fun e => fa.2.1 ?_) (S.K q hq).1
    rw [← e]; exact List.mem_map_of_mem hq

/-- x.append(e) -/
theorem Z.append (F : Fx prog w A env s₀ D) (S : St prog w env s₀ kp loc s) {x : Str} {px apos cpos pos : Pos} {e : Expr} {is : List Int} {b : Int} (hl : loc.lookup x = some (.list is)) (hd : (loc.all fun q => !(q.1 == ("__debug__" : Str))) = true) (hstill : (loc.all fun q => q.2.still) = true) (hz : is.length ≤ 1000000)
    (he : Ev prog w A env [] s e (.int b)) (hline : (apos.endLine == cpos.line) = true) (hi : interactive env = false) (hs : swapsWith (.Call (.Attribute (.Name x px) "append" apos) [e] [] cpos) none pos.line env = pure false)
    (hbase : attributeBase (.Name x px) "append" env (eval (.Name x px) env) = eval (.Name x px) env)
    (hfew : ((backTo cpos (starEach [e] env)).all (fun x => !x.1) && (backToKw cpos (keywordEach [] env)).all (fun x => x.1.isSome) && decide (([e] : List Expr).length + ([] : List Keyword).length + (if ([] : List Keyword).isEmpty then 0 else 1) < 30)) = true)
    (htrees : backTo cpos (starEach [e] env) = [(false, eval e env)])
    (hk : ∀ s', St prog w env s₀ kp ((x, .list (is ++ [b])) :: loc) s' → wpAny (model prog w) A (execs rest env) Φ E s') : wpAny (model prog w) A (execs (.Expr (.Call (.Attribute (.Name x px) "append" apos) [e] [] cpos) pos :: rest) env) Φ E s := by
  have C := S.cx F hd
  obtain ⟨m, cm, S⟩ := S
  obtain ⟨v, e1, r, f⟩ := S.V x _ hl
  obtain ⟨a, vs, n, rfl, ho, hI⟩ := plain_get r
  have hload : ∀ Q E, Q (.ref a) s → wpAny (model prog w) A (eval (.Name x px) env) Q E s := fun Q E hQ => by
    have hdx : (x == ("__debug__" : Str)) = false := by
      have := List.all_eq_true.mp hd (x, _) (mem_of_lookup hl)
      simpa using this
    unfold vl at e1
    split at e1
    · rename_i hk'
      exact wpAny_Name (wpAny_loadName_local F.kind hk' S.X.toInCall.ns e1 hQ) hdx
    · split at e1
      · rename_i hk'
        obtain ⟨hk', hc⟩ := hk'
        obtain ⟨c, hc⟩ := Option.isSome_iff_exists.mp hc
        exact wpAny_Name (wpAny_loadName_cell F.kind hk' hc (e1 ▸ S.X.cell x c hc) hQ) hdx
      · cases e1
  refine Z.seq (wpAny_Expr (wpAny_Call_append hbase hfew hline htrees (hload _ _ ⟨a, _, rfl, ⟨_, n, ho, rfl, rfl, rfl⟩, he s _ _ (Hx.refl _) fun u s₂ k₂ ru => ?_⟩)) hi hs)
  obtain ⟨t, rfl⟩ := ru
  have S₂ := S.kept k₂
  refine wpAny_list_append_plain (items := vs.toArray) ⟨n, k₂.get _ _ ho⟩ (fun h' hp' hs' => ?_) (by rw [sizeLine_eq]; simp [hI.length]; omega)
  exact hk _ ⟨m, cm, S₂.write hl e1 ⟨n, k₂.get _ _ ho⟩ hstill hs'.extBut (us := vs ++ [.int b t]) (by simpa using hp') (hI.append (.cons _ _ .nil))⟩

/-- try, where nothing is raised -/
theorem Z.try {body : List Stmt} {h₀ : ExceptHandler} {hs : List ExceptHandler} {pos : Pos}
    (h : ∀ (E' : Value → Shared → Prop), wpAny (model prog w) A (execs body env) (fun f s₁ => match f with | .next => wpAny (model prog w) A (execs rest env) Φ E s₁ | f => Φ f s₁) E' s) :
    wpAny (model prog w) A (execs (.Try body (h₀ :: hs) [] [] pos :: rest) env) Φ E s :=
  Z.seq (wpAny_Try_except (wpAny_mono (h _) (fun f s₁ h₁ => by
    cases f with
    | next => exact wpAny_execs_nil h₁
    | brk => exact h₁
    | cont => exact h₁
    | ret v => exact h₁) fun _ _ e => e))

-- calls of the text's functions
/-- a def called by pure arguments -/
def FnR (prog : Program) (w : World) (A : Around) (D : Dt) (fa : Addr) (ps : List PV) (r : PV) : Prop :=
  ∀ bad s vs, GF s.heap D → Live bad s → Reps prog w [] s.heap vs ps → Op prog w A bad s (call (.ref fa) vs) r

theorem EvArgs.up {es : List Expr} {ps : List PV} (h : EvArgs prog w A env s es ps) (k : Hx s s') : EvArgs prog w A env s' es ps := by
  induction h with
  | nil => exact .nil
  | cons he hs _ ih => exact .cons (he.up k) hs ih

theorem Ev.callF (C : Cx prog w A env s D σ) {x : Str} {fa : Addr} {o : Obj} {fd : FuncData} {np pos : Pos} {e : Expr} {es : List Expr} {ps : List PV} {r : PV} (hk : env.kindOf x = some .globalImplicit) (hD : D.names.lookup x = some (.ref fa)) (hd : (x == ("__debug__" : Str)) = false)
    (ho : (fa, o) ∈ D.objs) (hfd : o.data = .func fd) (ha : EvArgs prog w A env s (e :: es) ps) (hb : Live bad s) (H : FnR prog w A D fa ps r) : Ev prog w A env bad s (.Call (.Name x np) (e :: es) [] pos) r := fun s₁ Q E k₁ hQ =>
  wpAny_Call_NameR (gname C hk hD hd k₁ (callWith_function (o := o) (fd := fd) (by
    cases ha with
    | cons he hs hr =>
      have hx : backTo pos (starEach (e :: es) env) = (false, eval e env) :: backTo pos (starEach es env) := by rw [hs]; rfl
      have sp := (EvArgs.cons he hs hr).sound (pos := pos) s₁ (fun vs s' => (s'.heap.get? fa = some o ∧ o.data = .func fd) ∧ wpAny (model prog w) A (call (.ref fa) ([] ++ vs) []) Q E s') E k₁ fun vs s₂ k₂ rv =>
        ⟨⟨(C.gf.up (k₁.trans k₂).get).objs _ ho, hfd⟩, H bad s₂ vs (C.gf.up (k₁.trans k₂).get) (hb.up (k₁.trans k₂)) rv _ _ fun v s₃ k₃ r₃ => hQ v s₃ (k₂.trans k₃) r₃⟩
      rw [hx] at sp ⊢
      exact evalArgs_plain sp)))
theorem EvF.callF (C : Cx prog w A env s D σ) {x : Str} {fa : Addr} {o : Obj} {fd : FuncData} {np pos : Pos} {e : Expr} {es : List Expr} {ps : List PV} {r : PV} (hk : env.kindOf x = some .globalImplicit) (hD : D.names.lookup x = some (.ref fa)) (hd : (x == ("__debug__" : Str)) = false)
    (ho : (fa, o) ∈ D.objs) (hfd : o.data = .func fd) (ha : EvArgs prog w A env s (e :: es) ps) (H : FnR prog w A D fa ps r) : EvF prog w A env s (.Call (.Name x np) (e :: es) [] pos) r := fun s' bad k hb =>
  Ev.callF (C.up k) hk hD hd ho hfd (ha.up k) hb H

/-- the binds of a call, told -/
inductive Bd (prog : Program) (w : World) (h : Heap) : List (Str × Value) → List (Str × PV) → Prop
  | nil : Bd prog w h [] []
  | cons {x v p r l} : Rep prog w [] h v p → p.flat = true → Bd prog w h r l → Bd prog w h ((x, v) :: r) ((x, p) :: l)

theorem bind_vl : ∀ (binds : List (Str × Value)) (m cm : Str → Option Value), (∀ q ∈ binds, Own env q.1) → ∀ x, vl env (bindL env.kindOf binds m) (bindC env.kindOf binds cm) x = match binds.reverse.lookup x with | some v => some v | none => vl env m cm x
  | [], m, cm, _, x => rfl
  | (n, v) :: r, m, cm, h, x => by
    unfold bindL bindC
    rw [bind_vl r _ _ (fun q hq => h q (List.mem_cons_of_mem _ hq)) x]
    have hr : ((n, v) :: r).reverse.lookup x = match r.reverse.lookup x with | some u => some u | none => if x = n then some v else none := by
      rw [List.reverse_cons]
      induction r.reverse with
      | nil =>
        by_cases e : x = n
        · simp [e, List.lookup_cons]
        · have : (x == n) = false := by simpa using e
          simp [e, List.lookup_cons, this]
      | cons a l ih =>
        obtain ⟨k, u⟩ := a
        simp only [List.cons_append, List.lookup_cons]
        cases x == k with
        | true => rfl
        | false => exact ih
    rw [hr]
    cases r.reverse.lookup x with
    | some u => rfl
    | none =>
      simp only
      rcases h (n, v) (List.mem_cons_self ..) with hx | ⟨hx, hc⟩
      · rw [if_pos hx, if_pos hx, vl_set_local hx]
        by_cases e : x = n <;> simp [e]
      · have hn : ¬ env.kindOf n = some .local := by rw [hx]; decide
        rw [if_neg hn, if_neg hn, vl_set_cell hx hc]
        by_cases e : x = n <;> simp [e]

theorem look_nodup {α : Type} : ∀ {cs : List (Str × α)} {n : Str} {c : α}, (cs.map (·.1)).Nodup → (n, c) ∈ cs → cs.lookup n = some c
  | (n', c') :: cs, n, c, hnd, hm => by
    rw [List.map_cons, List.nodup_cons] at hnd
    rcases List.mem_cons.mp hm with e | hm2
    · cases e; simp [List.lookup_cons]
    · rw [List.lookup_cons]
      cases hb : n == n' with
      | true => exact absurd (show n' ∈ cs.map (·.1) from List.mem_map.mpr ⟨(n, c), hm2, beq_iff_eq.mp hb⟩) hnd.1
      | false => exact look_nodup hnd.2 hm2
theorem Bd.look {h : Heap} {binds : List (Str × Value)} {loc : List (Str × PV)} (b : Bd prog w h binds loc) (hnd : (loc.map (·.1)).Nodup) {x : Str} {p : PV} (e : loc.lookup x = some p) : ∃ v, binds.reverse.lookup x = some v ∧ Rep prog w [] h v p ∧ p.flat = true := by
  have key : ∀ {binds : List (Str × Value)} {loc : List (Str × PV)}, Bd prog w h binds loc → (loc.map (·.1)).Nodup → ∀ {x : Str} {p : PV}, loc.lookup x = some p → ∃ v, (x, v) ∈ binds ∧ Rep prog w [] h v p ∧ p.flat = true := by
    intro binds loc b
    induction b with
    | nil => intro _ x p e; cases e
    | @cons y v q r l hv hq _ ih =>
      intro hnd x p e
      rw [List.lookup_cons] at e
      cases hb : x == y with
      | true => rw [hb] at e; cases e; rw [beq_iff_eq.mp hb]; exact ⟨v, List.mem_cons_self .., hv, hq⟩
      | false =>
        rw [hb] at e
        obtain ⟨u, h1, h2⟩ := ih (List.nodup_cons.mp hnd).2 e
        exact ⟨u, List.mem_cons_of_mem _ h1, h2⟩
  have hkeys : binds.map (·.1) = loc.map (·.1) := by
    clear e hnd key
    induction b with
    | nil => rfl
    | cons _ _ _ ih => simp [ih]
  obtain ⟨v, hv, r⟩ := key b hnd e
  refine ⟨v, ?_, r⟩
  have hnd' : (binds.reverse.map (·.1)).Nodup := by
    rw [List.map_reverse, hkeys]
    exact List.pairwise_reverse.mpr (hnd.imp fun h e => h e.symm)
  exact look_nodup hnd' (List.mem_reverse.mpr hv)

theorem FnR.mk {fa : Addr} {o : Obj} {fd : FuncData} {body : List Stmt} {ps : List PV} {loc : List (Str × PV)} {r : PV} (hroom : A.depth < recursionLimit) (hh : A.handled = none) (ho : (fa, o) ∈ D.objs) (hfd : o.data = .func fd) (hbody : fd.body = .stmts body) (hclo : fd.closure = [])
    (hcd : ∀ h, GF h D → h.CodeRec fd.code fd.qualname)
    (hbind : ∀ s vs, GF s.heap D → Reps prog w [] s.heap vs ps → ∃ binds, BindsTo s fd ⟨vs, []⟩ binds ∧ Bd prog w s.heap binds loc) (hnd : (loc.map (·.1)).Nodup)
    (hown : ∀ L q, q ∈ loc → Own (callEnvC fd L fa) q.1)
    (hglob : fd.globals = mainGlobals) (hbi : fd.builtins = builtinsNs)
    (hco : fd.scope.isCoroutine = false) (hgen : fd.scope.isGenerator = false) (hk : fd.scope.kind = .function)
    (H : ∀ (bad : List Addr) (s₀ s : Shared) (E : Value → Shared → Prop) (Φ : Flow → Shared → Prop), Live bad s₀ → Fx prog w (A.deeper (callEnvC fd s₀.heap.objs.size fa)) (callEnvC fd s₀.heap.objs.size fa) s₀ D →
      St prog w (callEnvC fd s₀.heap.objs.size fa) s₀ [] loc s → (∀ v s', Kp s₀ s' → Rep prog w bad s'.heap v r → Φ (.ret v) s') →
      wpAny (model prog w) (A.deeper (callEnvC fd s₀.heap.objs.size fa)) (execs body (callEnvC fd s₀.heap.objs.size fa)) Φ E s) : FnR prog w A D fa ps r := by
  intro bad s vs G hL hr Q E hQ
  obtain ⟨binds, hb, hB⟩ := hbind s vs G hr
  have hO : ∀ q ∈ binds, Own (callEnvC fd s.heap.objs.size fa) q.1 := fun q hq => by
    have hkeys : binds.map (·.1) = loc.map (·.1) := by
      clear hb hbind hown hnd H hq
      induction hB with
      | nil => rfl
      | cons _ _ _ ih => simp [ih]
    have : q.1 ∈ loc.map (·.1) := hkeys ▸ List.mem_map_of_mem hq
    obtain ⟨q', hq', e⟩ := List.mem_map.mp this
    rw [← e]; exact hown _ q' hq'
  refine wpAny_call (codeAny_call_function hroom (G.objs _ ho) hfd hco hgen hbody (hcd _ G) (hb _ _ _ _ ?_))
  rw [hclo]
  refine wpAny_newFunctionEnv_cells hk (fun x hx => ?_) fun env he s' x => ?_
  · rcases hO x hx with h | ⟨h, h'⟩
    · exact .inl h
    · exact .inr ⟨h, h'⟩
  · subst he
    refine ⟨G.nolimit.keeps x.toInCall.keep, codeAny_func ?_⟩
    refine H bad s s' _ _ hL ⟨hh, hk, hglob, hbi, G⟩ ⟨_, _, x, fun y p e => ?_, fun y z p q a hyz e e' hp => ?_, fun q hq => by cases hq⟩ fun v s₂ k₂ r₂ => hQ v s₂ k₂ r₂
    · obtain ⟨v, h1, h2, h3⟩ := hB.look hnd e
      refine ⟨v, ?_, h2.up x.toInCall.keep, fun hp => by rw [h3] at hp; cases hp⟩
      have := bind_vl (env := callEnvC fd s.heap.objs.size fa) binds (fun _ => none) (fun _ => none) hO y
      rw [h1] at this
      exact this
    · obtain ⟨v, h1, h2, h3⟩ := hB.look hnd e
      rw [h3] at hp; cases hp
end
end B58

namespace B58
open Builtin PySem.W

theorem look_index_bytes : typeLookup (.type "bytes") "__index__" = pure none := by rw [typeLookup_type, builtinLookup_eq_fast]; kernel_rfl
theorem typeName_bytes : typeName (.type "bytes") = pure "bytes" := by unfold typeName; rw [find?_eq_fast]; kernel_rfl

section
variable {M : Model} {A : Around} {E : Value → Shared → Prop} {s : Shared} {b c : Array UInt8} {t u : Tok}
theorem cut_bytes {n : Nat} {Q : String → Shared → Prop} (h : Q "bytes" s) : wpAny M A (typeNameOfCut n (.bytes b t)) Q E s := by
  unfold typeNameOfCut shownTypeOf
  refine wpAny_bind (wpAny_bind (wpAny_typeOf (typeIs_bytes s b t) ?_))
  simp only [show (Value.type "bytes" == Value.type "builtin_function_or_method") = false by decide, Bool.false_eq_true, if_false]
  refine wpAny_pure ?_
  rw [show typeNameCut n (.type "bytes") = typeName (.type "bytes") from rfl, typeName_bytes]
  exact wpAny_pure h

theorem index_bytes {Q : Int → Shared → Prop} (hh : A.handled = none) (h : ∀ h' tk e, Heap.NewExc s.heap h' e "TypeError" → E (.ref e) { s with heap := h', toks := tk }) : wpAny M A (asIndex (.bytes b t)) Q E s := by
  unfold asIndex
  refine wpAny_bind (m := asInt? (.bytes b t)) (wpAny_pure ?_)
  refine wpAny_bind (wpAny_callSpecial?_none (typeIs_bytes s b t) look_index_bytes ?_)
  refine wpAny_bind (cut_bytes ?_)
  exact wpAny_raiseTypeError hh h

theorem meets_contains (s₀ : Shared) (b c : Array UInt8) (t u : Tok) : Meets («bytes.__contains__» ⟨[.bytes b t, .bytes c u], []⟩) (fun A R s => A.handled = none ∧ ∀ h' k, (∀ a o, s.heap.get? a = some o → h'.get? a = some o) →
    R (.ok (.ret (.bool (Bytes.find? b c 0 b.size).isSome))) { s with heap := h', toks := k }) := by
  refine .of_wp fun prog w A R s hS => ?_
  obtain ⟨hh, h⟩ := hS
  show wpAny _ _ (Bytes.containsIn "bytes.__contains__" (.bytes b t) (.bytes c u) >>= fun r => _) _ _ s
  refine wpAny_bind ?_
  unfold Bytes.containsIn
  refine wpAny_bind (wpAny_attempt (index_bytes hh fun h' tk e hn => ?_))
  refine wpAny_bind (wpAny_of_eq KBy.buffer_eq ?_)
  show wpAny _ _ (Bytes.buffer? _ (.bytes c u) >>= fun r => _) _ _ _
  refine wpAny_bind (wpAny_of_eq KBy.buffer_eq ?_)
  refine wpAny_bind (m := rule _) (wpAny_rule ?_)
  refine wpAny_pure ?_
  exact wpAny_pure ⟨_, rfl, h _ _ hn.keeps⟩
end

theorem slot_bytes_rstrip : Slot "bytes" "rstrip" "bytes.rstrip" :=
  .of (owner := "bytes") (n := "rstrip") (by rw [typeLookup_type, builtinLookup_eq_fast]; kernel_rfl) (by decide +kernel) (by decide +kernel) (by decide +kernel)
    (by first | exact .inl (by decide +kernel) | exact .inr (by decide +kernel)) (by rw [isSubtype_type]; kernel_rfl)
theorem type_bytes_rstrip : typeOf (.builtin "bytes.rstrip") = pure (.type "method_descriptor") := by show builtinType _ = _; rw [builtinType_eq_fast]; kernel_rfl
theorem entry_bytes_rstrip : entryFor table "bytes.rstrip" = some Builtin.«bytes.rstrip» := entryFor_of_tree (by kernel_rfl)
theorem args_bytes_rstrip_1 (a : Value) : argsOk "bytes.rstrip" ⟨[a], []⟩ := by
  unfold argsOk; rw [signature?_of (id := "bytes.rstrip") (n := ['p', 'i', 'r', 't', 's', 'r']) (o := ['s', 'e', 't', 'y', 'b']) (by kernel_rfl) FB.owner_bytes]; kernel_rfl

theorem drop_none {p : UInt8 → Bool} : ∀ {l : List UInt8}, (∀ c ∈ l, p c = false) → l.dropWhile p = l
  | [], _ => rfl
  | c :: l, h => by rw [List.dropWhile_cons_of_neg]; simp [h c (List.mem_cons_self ..)]

theorem gives_rstrip (b : Array UInt8) (t : Tok) (h : ∀ c ∈ b.toList, Bytes.isSpace c = false) : Gives («bytes.rstrip» ⟨[.bytes b t], []⟩) (.val (.bytes b t)) := by
  refine .of_wp fun M A E s Q hq => ?_
  show wpAny M A (pure Bytes.isSpace >>= fun r => _) _ E s
  refine wpAny_bind (wpAny_pure ?_)
  show wpAny M A (pure Bytes.isSpace >>= fun r => _) _ E s
  refine wpAny_bind (wpAny_pure ?_)
  refine wpAny_bind (m := Bytes.payload (.bytes b t)) (wpAny_pure ?_)
  have e : (b.toList.reverse.dropWhile Bytes.isSpace).reverse = b.toList := by
    rw [drop_none (fun c hc => h c (List.mem_reverse.mp hc)), List.reverse_reverse]
  show wpAny M A (if ((List.dropWhile Bytes.isSpace b.toList.reverse).reverse.length == b.size) = true then _ else _) _ E s
  rw [e]
  simp only [Array.length_toList, beq_self_eq_true, if_true]
  refine wpAny_bind (m := rule _) (wpAny_rule ?_)
  refine wpAny_bind (m := Bytes.Kind.same .bytes (.bytes b t)) ?_
  unfold Bytes.Kind.same
  refine wpAny_bind (wpAny_typeOf (typeIs_bytes s b t) ?_)
  exact wpAny_pure (wpAny_pure ⟨_, rfl, hq⟩)

section
variable {prog : Program} {w : World} {A : Around} {env : Env} {bad : List Addr} {s s' s₀ : Shared} {D : Dt} {σ loc : List (Str × PV)}

/-- b' ' not in alphabet -/
theorem CmpR.notInB {x y : List UInt8} (hh : A.handled = none) : CmpR prog w A .NotIn (.bytes x) (.bytes y) (.bool (!(Bytes.find? y.toArray x.toArray 0 y.toArray.size).isSome)) := fun s v u rv ru Q E hQ => by
  obtain ⟨t, rfl⟩ := rv; obtain ⟨t', rfl⟩ := ru
  exact PySem.SeqRoads2.notIn_meets (typeIs_bytes _ _ _) FB.slot_bytes_contains FB.entry_bytes_contains (FB.args_bytes_contains_2 _ _) (meets_contains s _ _ _ _) ⟨hh, fun h' k hk => ⟨_, rfl, hQ _ _ (Kp.of s hk) rfl⟩⟩

theorem Ev.rstrip {o : Expr} {apos pos : Pos} {x : List UInt8} (ho : Ev prog w A env [] s o (.bytes x)) (hx : ∀ c ∈ x, Bytes.isSpace c = false) (hline : (apos.endLine == pos.line) = true) (hbase : attributeBase o "rstrip" env (eval o env) = eval o env) :
    Ev prog w A env bad s (.Call (.Attribute o "rstrip" apos) [] [] pos) (.bytes x) := fun s₁ Q E k₁ hQ =>
  wpAny_Call_method0_late hbase hline (ho s₁ _ _ k₁ fun v s₂ k₂ rv => by
    obtain ⟨t, rfl⟩ := rv
    exact ⟨_, _, FB.plainAttrs_bytes, slot_bytes_rstrip, type_bytes_rstrip, typeIs_bytes _ _ _, (fun a e => nomatch e),
      method0_gives slot_bytes_rstrip entry_bytes_rstrip (typeIs_bytes _ _ _) (args_bytes_rstrip_1 _) (gives_rstrip _ _ (by simpa using hx)) (hQ _ s₂ k₂ ⟨_, rfl⟩)⟩)

theorem call_isStrB {x : List UInt8} {Q : Value → Shared → Prop} {E : Value → Shared → Prop} {t : Tok} (hQ : Q (.bool false) { s with toks := s.toks + 1 }) : wpAny (model prog w) A (call (.builtin "isinstance") [.bytes x.toArray t, .type "str"]) Q E s := by
  obtain ⟨h, g, d, t, os⟩ := s
  exact call_isinstance_of (isinstance_nested_false_bytes (by decide) F.isi_meta_str F.sub_bytes_str hQ)

/-- isinstance(v, str), v bytes -/
theorem Ev.isStrB (C : Cx prog w A env s D σ) {f y : Str} {np yp pos : Pos} {e : Expr} {x : List UInt8} (hk : env.kindOf f = some .globalImplicit) (hD : D.names.lookup f = some (.builtin "isinstance")) (hd : (f == ("__debug__" : Str)) = false)
    (hky : env.kindOf y = some .globalImplicit) (hDy : D.names.lookup y = some (.type "str")) (hdy : (y == ("__debug__" : Str)) = false) (he : Ev prog w A env [] s e (.bytes x)) (hs : starEach [e, .Name y yp] env = (false, eval e env) :: starEach [.Name y yp] env) :
    Ev prog w A env bad s (.Call (.Name f np) [e, .Name y yp] [] pos) (.bool false) := fun s₁ Q E k₁ hQ =>
  wpAny_Call_NameR (gname C hk hD hd k₁ (callWith_builtin (by rw [hs]; rfl) (by
    have hx : backTo pos (starEach [e, .Name y yp] env) = (false, eval e env) :: backTo pos (starEach [.Name y yp] env) := by rw [hs]; rfl
    have sp : wpAny (model prog w) A (spliced (backTo pos (starEach [e, .Name y yp] env))) (fun vs s' => wpAny (model prog w) A (call (.builtin "isinstance") ([] ++ vs) []) Q E s') E s₁ :=
      wpAny_items_cons (he s₁ _ _ k₁ fun v s₂ k₂ rv => wpAny_items_cons (gname C hky hDy hdy (k₁.trans k₂) (wpAny_items_nil (by
        obtain ⟨t, rfl⟩ := rv
        exact call_isStrB (hQ _ _ (k₂.trans (Kp.toks _ _)) rfl)))) rfl) hs
    rw [hx] at sp ⊢
    exact evalArgs_plain sp)))
end
end B58

namespace B58
open PySem.W.KBw (IsBytesIter)

section
variable {prog : Program} {w : World} {A : Around} {E : Value → Shared → Prop} {s : Shared} {b : Array UInt8} {t : Tok} {it : Addr} {i : Nat}
open PySem.W.KBw in
/-- enumerate asks the iterator over bytes -/
theorem nextOf_by {Q : Value → Shared → Prop} (hit : IsBytesIter s.heap it b t i)
    (step : wpAny (model prog w) A.in1 (Builtin.«bytes_iterator.__next__» ⟨[.ref it], []⟩) (fun f s' => ∃ v, f = .done (.ret v) ∧ Q v s') E s) : wpAny (model prog w) A (Builtin.SmallTypes.nextOf (.ref it)) Q E s := by
  unfold Builtin.SmallTypes.nextOf
  exact wpAny_bind (wpAny_callSpecial?_slot (iter_typeIs hit) slot_next (wpAny_call_entry slot_next (iter_typeIs hit) entry_next (wpAny_mono step (fun _ _ ⟨v, e, h⟩ => e ▸ ⟨v, rfl, wpAny_pure h⟩) fun _ _ e => e) (args_next _)))

theorem byte_next {c : UInt8} {Q : Fin → Shared → Prop} (hit : IsBytesIter s.heap it b t i) (hx : b[i]? = some c)
    (hQ : ∀ h', IsBytesIter h' it b t (i + 1) → Heap.SameBut it s.heap h' → Q (.done (.ret (.int (c.toNat : Int) s.toks))) { s with heap := h', toks := s.toks + 1 }) :
    wpAny (model prog w) A (Builtin.«bytes_iterator.__next__» ⟨[.ref it], []⟩) Q E s := by
  obtain ⟨⟨cls, dict, data, slots⟩, ho, hc, hd⟩ := hit
  dsimp only at hc hd
  subst hc hd
  unfold Builtin.«bytes_iterator.__next__»
  repeat (any_goals (first | assumption | wp_step))
  simp only [Int.toNat_natCast, hx]
  repeat (any_goals (first | assumption | wp_step))
  exact hQ _ ⟨_, Heap.get?_update_self _ ho rfl, rfl, rfl⟩ (Heap.SameBut.update ..)

theorem byte_end {Q : Fin → Shared → Prop} (hh : A.handled = none) (hit : IsBytesIter s.heap it b t i) (hx : b[i]? = none)
    (hE : ∀ h' e, Heap.ExtBut it s.heap h' → (∃ o, h'.get? e = some o ∧ o.cls = .type "StopIteration") → E (.ref e) { s with heap := h' }) :
    wpAny (model prog w) A (Builtin.«bytes_iterator.__next__» ⟨[.ref it], []⟩) Q E s := by
  obtain ⟨⟨cls, dict, data, slots⟩, ho, hc, hd⟩ := hit
  dsimp only at hc hd
  subst hc hd
  unfold Builtin.«bytes_iterator.__next__»
  repeat (any_goals (first | assumption | wp_step))
  simp only [Int.toNat_natCast, hx]
  repeat (any_goals (first | assumption | wp_step))
  unfold raiseNew
  refine wpAny_bind (wpAny_handled ?_)
  rw [hh]
  repeat (any_goals (first | assumption | wp_step))
  exact hE _ _ (Heap.ExtBut.push (Heap.ExtBut.push (Heap.SameBut.extBut (Heap.SameBut.update ..)) _) _) ⟨_, Heap.get?_push_size _ rfl, rfl⟩
end

theorem drawsB {prog : Program} {w : World} {A : Around} (hh : A.handled = none) (it : Addr) (b : Array UInt8) (t : Tok) :
    Draws prog w A it [it] b.size (fun i v => ∃ c u, b[i]? = some c ∧ v = .int (c.toNat : Int) u) (fun i h => IsBytesIter h it b t i) where
  live := fun _ _ ⟨o, ho, _⟩ => ⟨o, ho⟩
  frame := fun _ _ _ ⟨o, ho, r⟩ up => ⟨o, up _ (List.mem_singleton_self _) o ho, r⟩
  item := fun i s _ _ hi st hQ => nextOf_by st (byte_next st (Array.getElem?_eq_getElem hi) fun h' st' same => ⟨_, rfl, hQ _ h' _ ⟨_, _, Array.getElem?_eq_getElem hi, rfl⟩ st' same⟩)
  done := fun s _ _ st hE => nextOf_by st (byte_end hh st (Array.getElem?_eq_none (Nat.le_refl _)) hE)

set_option maxHeartbeats 2000000 in
theorem meets_enumB (x : Array UInt8) (t : Tok) :
    Meets (Builtin.«enumerate.__new__» ⟨[.type "enumerate", .bytes x t], []⟩) (fun _ R s =>
      R (.ok (.ret (.ref (s.heap.push { cls := .type "bytes_iterator", data := .fields #[.bytes x t, .int 0 0] }).objs.size)))
        { s with heap := (s.heap.push { cls := .type "bytes_iterator", data := .fields #[.bytes x t, .int 0 0] }).push { cls := .type "enumerate", data := .fields #[.none, .bool false, .ref s.heap.objs.size, rawInt 0, .none, .none] } }) :=
  .of_wp fun prog w A R s h => by
    obtain ⟨hp, g, d, tk, os⟩ := s
    have hsub := sub_enumerate
    wp_walk
    refine wpAny_stack_any fun st => wpAny_pure ?_
    split
    · rename_i c _ _ _ _ _
      cases (c == Value.type "enumerate")
      · wp_walk using PySem.W.KBw.pyIter_bytes
        exact ⟨_, rfl, h⟩
      · wp_walk using PySem.W.KBw.pyIter_bytes
        exact ⟨_, rfl, h⟩
    · wp_walk using PySem.W.KBw.pyIter_bytes
      exact ⟨_, rfl, h⟩

section
variable {prog : Program} {w : World} {A : Around} {E : Value → Shared → Prop} {s : Shared}
/-- enumerate(bytes): an iterator over the bytes, and one over that -/
theorem call_enumB {x : Array UInt8} {t : Tok} {Q : Value → Shared → Prop}
    (h : ∀ h', IsEnum h' (s.heap.objs.size + 1) s.heap.objs.size 0 .none → IsBytesIter h' s.heap.objs.size x t 0 → h'.objs.size = s.heap.objs.size + 2 → (Kp s { s with heap := h' }) → Q (.ref (s.heap.objs.size + 1)) { s with heap := h' }) :
    wpAny (model prog w) A (call (.type "enumerate") [.bytes x t]) Q E s := by
  generalize hb : ({ cls := .type "bytes_iterator", data := .fields #[.bytes x t, .int 0 0] } : Obj) = ob
  generalize he : ({ cls := .type "enumerate", data := .fields #[.none, .bool false, .ref s.heap.objs.size, rawInt 0, .none, .none] } : Obj) = oe
  have z1 : (s.heap.push ob).objs.size = s.heap.objs.size + 1 := Heap.size_push ..
  have z2 : ((s.heap.push ob).push oe).objs.size = s.heap.objs.size + 2 := by rw [Heap.size_push, z1]
  have g1 : ((s.heap.push ob).push oe).get? s.heap.objs.size = some ob := Heap.get?_push_of_some _ (Heap.get?_push_size _ (by rw [← hb]; rfl))
  have g2 : ((s.heap.push ob).push oe).get? (s.heap.objs.size + 1) = some oe := z1 ▸ Heap.get?_push_size _ (by rw [← he]; rfl)
  refine callType_new F.called_enumerate (by decide) (F.typeCall_enumerate_1 _) (F.newCall_enumerate_1 _) (fun obj => F.args_object_init_2 obj _) F.entry_enumerate_new (meets_enumB x t) ?_
  show _ ∧ _
  rw [hb, he, z1]
  exact ⟨⟨oe, g2, by rw [← he]⟩, h _ (g2.trans (congrArg some he.symm)) ⟨ob, g1, hb ▸ rfl, hb ▸ rfl⟩ z2 ((Kp.push s ob s.toks).trans (Kp.push _ oe s.toks))⟩

/-- what a comprehension gathers into, and its frame, are new -/
theorem gather_frame {env : Env} {scope : Scope} {cl : List (Str × Addr)} {o : Obj} {K : Env → Shared → Prop} (hcell : ∀ y ∈ scope.names, y.2 ≠ .cell) (hkind : scope.kind = .function) (hfree : o.isFreed = false)
    (k : ∀ h, h.get? s.heap.objs.size = some o → (∃ m, h.Ns (s.heap.objs.size + 1) m) → (∀ c x, s.heap.get? c = some x → h.get? c = some x) → K (compEnvC scope cl (s.heap.objs.size + 1) env) { s with heap := h }) :
    wpAny (model prog w) A (newFunctionEnv scope env.globals cl [] env.qual none .none (some env)) (fun e s' => K { e with scope := relabel scope env } s') E { s with heap := s.heap.push o } := by
  have z : (s.heap.push o).objs.size = s.heap.objs.size + 1 := Heap.size_push ..
  refine wpAny_newFunctionEnv hcell (fun _ q => nomatch q) (fun h hn hs => ?_) hkind
  have up : ∀ c x, (s.heap.push o).get? c = some x → h.get? c = some x := fun c x e => hs.extBut c x (Nat.ne_of_lt (Heap.lt_size e)) (Heap.get?_push_of_some _ e)
  have r := k h (up _ _ (Heap.get?_push_size _ hfree)) ⟨_, z ▸ hn⟩ fun c x e => up c x (Heap.get?_push_of_some _ e)
  rw [← z] at r
  exact r
end

/-- the table of a text: each sign's place -/
def tabKvs : List UInt8 → Nat → List (Int × Value) → (Nat → Tok) → List (Int × Value)
  | [], _, acc, _ => acc
  | c :: r, i, acc, τ => tabKvs r (i + 1) (stored acc ((c.toNat : Nat) : Int) (.int i (τ i))) τ

/-- some pairs tell the places of the first n signs -/
inductive Tab (b : List UInt8) : Nat → List (Int × Value) → Prop
  | zero : Tab b 0 []
  | succ {n kvs c t} : Tab b n kvs → b[n]? = some c → Tab b (n + 1) (stored kvs ((c.toNat : Nat) : Int) (.int ((n : Nat) : Int) t))

theorem Tab.len {b : List UInt8} {n : Nat} {kvs : List (Int × Value)} (h : Tab b n kvs) : kvs.length ≤ n := by
  induction h with
  | zero => exact Nat.le_refl _
  | @succ n kvs c t _ _ ih =>
    have := stored_length_le kvs ((c.toNat : Nat) : Int) (.int ((n : Nat) : Int) t)
    omega

section
variable {prog : Program} {w : World} {A : Around} {R : Result → Shared → Prop} {E : Value → Shared → Prop} {s : Shared} {env : Env}

theorem compLoop_tab {x y : Str} {p1 p2 px py tp : Pos} {k : Nat} {iter : Expr} {scope : Scope} {pos : Pos} {I Da : Addr} {fp wr : List Addr} {b : List UInt8} {Pt : Nat → Array Value → Prop} {St : Nat → Heap → Prop} {Mid : Nat → Addr → Heap → Prop}
    {cenv : Env} {m : Str → Option Value} (hh : A.handled = none) (W : WalksT prog w A I fp wr b.length Pt St Mid) (hPt : ∀ i vals, Pt i vals → ∃ t c u, b[i]? = some c ∧ vals = #[.int i t, .int (c.toNat : Int) u])
    (hk : cenv.scope.kind = .function) (hx : cenv.kindOf x = some .local) (hy : cenv.kindOf y = some .local) (hdx : (x == ("__debug__" : Str)) = false) (hdy : (y == ("__debug__" : Str)) = false) (hxy : y ≠ x)
    (hDC : Da ≠ cenv.locals) (hDf : Da ∉ fp) (hCf : cenv.locals ∉ fp)
    (hst : St 0 s.heap) (hacc : s.heap.DictOf (intKind prog w) Da []) (hn : s.heap.Ns cenv.locals m)
    (hR : ∀ h' tk m' kvs, h'.Ns cenv.locals m' → h'.DictOf (intKind prog w) Da kvs → Tab b b.length kvs →
      (∀ b o, b ≠ cenv.locals → b ∉ wr → b ≠ Da → s.heap.get? b = some o → h'.get? b = some o) → R (.ok .next) { s with heap := h', toks := tk })
    (hsz : b.length ≤ sizeLine) :
    codeAny (model prog w) A (.compLoop (.DictComp (.Name y p1) (.Name x p2) [⟨.Tuple [.Name x px, .Name y py] k tp, iter, [], 0⟩] scope pos) 0 (.ref I) (.ref Da) cenv) R s := by
  have hp : (cenv.scope.kind == .class || (cenv.scope.kind == .module && cenv.locals != cenv.globals)) = false := by rw [hk]; rfl
  have hCw : cenv.locals ∉ wr := fun h => hCf (W.sub _ h)
  have hDw : Da ∉ wr := fun h => hDf (W.sub _ h)
  refine codeAny_loop rfl (fun n s' => ∃ h' tk m' kvs i, s' = { s with heap := h', toks := tk } ∧ St i h' ∧ h'.DictOf (intKind prog w) Da kvs ∧ h'.Ns cenv.locals m' ∧ Tab b i kvs ∧ i ≤ b.length ∧ n = b.length + 1 - i ∧
      ∀ b o, b ≠ cenv.locals → b ∉ wr → b ≠ Da → s.heap.get? b = some o → h'.get? b = some o) (fun n s' hI => ?_) (b.length + 1)
    ⟨s.heap, s.toks, m, [], 0, rfl, hst, hacc, hn, .zero, Nat.zero_le _, rfl, fun _ _ _ _ _ e => e⟩
  obtain ⟨H, tk, m', kvs, i, rfl, hst', hacc', hn', hT, hi, rfl, hk'⟩ := hI
  show wpAny _ A ((compTurn _ 0 (.ref I) (.ref Da) cenv).onRaise (fun x => do noteFrame x cenv; theTreesLotGoes x)) _ _ _
  refine wpAny_noted ?_
  rw [compTurn_dict]
  refine wpAny_bind (wpAny_standAt (wpAny_bind ?_))
  by_cases hlt : i < b.length
  · refine W.item i _ _ _ hlt hst' fun T vals h₁ tk₁ hPv _ hT₁ hMid hk₁ => ?_
    obtain ⟨t, c, u, hc, rfl⟩ := hPt i vals hPv
    refine wpAny_bind (W.go _ k tp i T _ _ _ hMid fun h₂ hst₂ hk₂ => ?_)
    have ht₂ : h₂.IsTuple T #[.int i t, .int (c.toNat : Int) u] := hT₁.at fun o e => hk₂ T o (W.apart i T h₁ hMid) e
    refine wpAny_bind (wpAny_assign_Tuple hh ht₂ rfl rfl fun h₃ hx₃ => ?_)
    replace hx₃ : Heap.ExtBut h₂.objs.size h₂ h₃ := hx₃
    have up₃ : ∀ b o, h₂.get? b = some o → h₃.get? b = some o := fun b o x => hx₃ b o (Nat.ne_of_lt (Heap.lt_size x)) x
    have hn₃ : h₃.Ns cenv.locals m' := hn'.at' fun o e => up₃ _ o (hk₂ _ o hCw (hk₁ _ o hCw e))
    have hd₃ : h₃.DictOf (intKind prog w) Da kvs := hacc'.at fun o e => up₃ _ o (hk₂ _ o hDw (hk₁ _ o hDw e))
    show wpAny _ A (do holding [.int (c.toNat : Int) u] (PySem.assign (.Name x px) cenv (.int i t)); do holding [] (PySem.assign (.Name y py) cenv (.int (c.toNat : Int) u)); pure ()) _ _ _
    refine wpAny_bind (wpAny_holding (wpAny_assign_Name (wpAny_storeName_local hx hn₃ (fun h₄ hn₄ hs₄ => ?_) hp)))
    replace hs₄ : Heap.SameBut cenv.locals h₃ h₄ := hs₄
    refine wpAny_bind (wpAny_holding (wpAny_assign_Name (wpAny_storeName_local hy hn₄ (fun h₅ hn₅ hs₅ => wpAny_pure ?_) hp)))
    replace hs₅ : Heap.SameBut cenv.locals h₄ h₅ := hs₅
    have hd₅ : h₅.DictOf (intKind prog w) Da kvs := hd₃.at fun o e => hs₅.extBut _ o hDC (hs₄.extBut _ o hDC e)
    refine wpAny_bind ?_
    show wpAny _ _ (pure true) _ _ _
    refine wpAny_pure ?_
    show wpAny _ _ ((do
          let kv ← eval (.Name y p1) cenv
          let vv ← holding [kv] (eval (.Name x p2) cenv)
          standAt _
          holding [kv, vv] (dictSet Da kv vv)) >>= fun _ => _) _ _ _
    have ly : ∀ (s' : Shared) Q E, s'.heap = h₅ → Q (Value.int (c.toNat : Int) u) s' → wpAny (model prog w) A (eval (.Name y p1) cenv) Q E s' := fun s' Q E hs h => wpAny_Name (wpAny_loadName_local hk hy (hs ▸ hn₅) (v := .int (c.toNat : Int) u) (by simp) h) hdy
    have lx : ∀ (s' : Shared) Q E, s'.heap = h₅ → Q (Value.int (i : Int) t) s' → wpAny (model prog w) A (eval (.Name x p2) cenv) Q E s' := fun s' Q E hs h => wpAny_Name (wpAny_loadName_local hk hx (hs ▸ hn₅) (v := .int (i : Int) t) (by simp [Ne.symm hxy]) h) hdx
    have hz : kvs.length ≤ sizeLine := by have := hT.len; omega
    refine wpAny_bind (wpAny_bind (ly _ _ _ rfl (wpAny_bind (wpAny_holding (lx _ _ _ rfl (wpAny_bind (wpAny_standAt (wpAny_holding ?_))))))))
    refine wpAny_dictSet_pairs (knd := intKind prog w) (intKind_is prog w (c.toNat : Int) u) hd₅ (fun h₆ hl₆ hs₆ => ?_) hz
    refine wpAny_pure ⟨rfl, b.length + 1 - (i + 1), by omega, h₆, _, _, _, i + 1, rfl, ?_, hl₆, hn₅.sameBut hs₆ (Ne.symm hDC), hT.succ hc, hlt, rfl, fun b' o hbC hbf hbD e => ?_⟩
    · exact W.frame _ _ _ hst₂ fun b' hb o e => hs₆.extBut b' o (fun q => hDf (q ▸ hb)) (hs₅.extBut b' o (fun q => hCf (q ▸ hb)) (hs₄.extBut b' o (fun q => hCf (q ▸ hb)) (up₃ b' o e)))
    · exact hs₆.extBut b' o hbD (hs₅.extBut b' o hbC (hs₄.extBut b' o hbC (up₃ b' o (hk₂ b' o hbf (hk₁ b' o hbf (hk' b' o hbC hbf hbD e))))))
  · have hin : i = b.length := by omega
    subst hin
    refine W.done _ _ _ hst' fun h₁ tk₁ hk₁ => wpAny_pure ?_
    exact hR h₁ tk₁ m' kvs (hn'.at' fun o e => hk₁ _ o hCw e) (hacc'.at fun o e => hk₁ _ o hDw e) hT fun b o hbC hbf hbD e => hk₁ b o hbf (hk' b o hbC hbf hbD e)
end
end B58

namespace B58
open PySem.W.KBw (IsBytesIter)

/-- a sign's place -/
def place (b : List UInt8) (k : Int) : Option Int := if k ∈ bInts b then some (((bInts b).idxOf k : Nat) : Int) else none

theorem valueAt_nil {k : Int} : valueAt ([] : List (Int × Value)) k = none := rfl
theorem valueAt_cons {a : Int} {u : Value} {r : List (Int × Value)} {k : Int} : valueAt ((a, u) :: r) k = if a = k then some u else valueAt r k := by
  unfold valueAt
  rw [List.find?_cons]
  by_cases h : a = k <;> simp [h]
theorem valueAt_map {k : Int} {v : Value} : ∀ (kvs : List (Int × Value)) (k' : Int), valueAt (kvs.map (fun kv => if kv.1 = k then (kv.1, v) else kv)) k' = if k' = k then (if kvs.any (fun kv => kv.1 = k) then some v else none) else valueAt kvs k'
  | [], k' => by simp [valueAt_nil]
  | (a, u) :: r, k' => by
    rw [List.map_cons]
    by_cases h : a = k
    · subst h
      simp only [if_true]
      rw [valueAt_cons, valueAt_map r k', valueAt_cons]
      by_cases h' : k' = a
      · subst h'; simp
      · have : ¬ a = k' := fun e => h' e.symm
        simp [h', this]
    · simp only [h, if_false]
      rw [valueAt_cons, valueAt_map r k', valueAt_cons]
      by_cases h' : k' = k
      · subst h'; simp only [h, if_false, if_true, List.any_cons, decide_false, Bool.false_or]
      · by_cases h2 : a = k' <;> simp [h', h2]
theorem valueAt_stored (kvs : List (Int × Value)) (k : Int) (v : Value) (k' : Int) : valueAt (stored kvs k v) k' = if k' = k then some v else valueAt kvs k' := by
  unfold stored
  by_cases h : kvs.any (fun kv => kv.1 = k) = true
  · rw [if_pos h, valueAt_map, if_pos h]
  · rw [if_neg h]
    have hno : ∀ {r : List (Int × Value)}, ¬ r.any (fun kv => kv.1 = k) = true → valueAt (r ++ [(k, v)]) k' = if k' = k then some v else valueAt r k' := by
      intro r
      induction r with
      | nil =>
        intro _
        rw [List.nil_append, valueAt_cons, valueAt_nil]
        by_cases e : k' = k
        · simp [e]
        · have : ¬ k = k' := fun q => e q.symm
          simp [e, this]
      | cons p r ih =>
        intro hp
        obtain ⟨a, u⟩ := p
        simp only [List.any_cons, Bool.or_eq_true, not_or] at hp
        have ha : ¬ a = k := by simpa using hp.1
        rw [List.cons_append, valueAt_cons, valueAt_cons, ih hp.2]
        by_cases h2 : a = k'
        · have : ¬ k' = k := fun q => ha (h2.trans q)
          simp [h2, this]
        · simp [h2]
    exact hno h

theorem Tab.spec {b : List UInt8} (hb : b.Nodup) {n : Nat} {kvs : List (Int × Value)} (h : Tab b n kvs) :
    (∀ i c, i < n → b[i]? = some c → ∃ t, valueAt kvs ((c.toNat : Nat) : Int) = some (.int ((i : Nat) : Int) t)) ∧ (∀ k, (∀ i c, i < n → b[i]? = some c → ((c.toNat : Nat) : Int) ≠ k) → valueAt kvs k = none) := by
  induction h with
  | zero => exact ⟨fun i c hi => absurd hi (Nat.not_lt_zero _), fun k _ => rfl⟩
  | @succ n kvs c t _ hc ih =>
    refine ⟨fun i c' hi e => ?_, fun k hk => ?_⟩
    · by_cases hin : i = n
      · subst hin
        rw [hc] at e; cases e
        exact ⟨t, by rw [valueAt_stored]; simp⟩
      · obtain ⟨t', e'⟩ := ih.1 i c' (by omega) e
        refine ⟨t', ?_⟩
        rw [valueAt_stored]
        have hne : c' ≠ c := fun q => by
          subst q
          obtain ⟨h1, e1⟩ := List.getElem?_eq_some_iff.mp e
          obtain ⟨h2, e2⟩ := List.getElem?_eq_some_iff.mp hc
          exact hin ((List.getElem_inj (xs := b) (h₀ := h1) (h₁ := h2) hb).mp (e1.trans e2.symm))
        have : ((c'.toNat : Nat) : Int) ≠ ((c.toNat : Nat) : Int) := fun q => hne (UInt8.toNat_inj.mp (by omega))
        simp [this, e', Ne.symm this]
    · rw [valueAt_stored]
      have h1 := hk n c (by omega) hc
      have h2 := ih.2 k fun i c' hi e => hk i c' (by omega) e
      simp [h1, h2, Ne.symm h1]

theorem Tab.rep {b : List UInt8} (hb : b.Nodup) {kvs : List (Int × Value)} (h : Tab b b.length kvs) (k : Int) :
    match place b k with | some i => ∃ t, valueAt kvs k = some (.int i t) | Option.none => valueAt kvs k = Option.none := by
  have hs := h.spec hb
  unfold place
  by_cases hk : k ∈ bInts b
  · rw [if_pos hk]
    have hl : (bInts b).idxOf k < (bInts b).length := List.idxOf_lt_length_iff.mpr hk
    have hl' : (bInts b).idxOf k < b.length := by simpa [bInts] using hl
    have hg : (bInts b)[(bInts b).idxOf k] = k := List.getElem_idxOf hl
    obtain ⟨t, e⟩ := hs.1 _ (b[(bInts b).idxOf k]) hl' (List.getElem?_eq_getElem hl')
    refine ⟨t, ?_⟩
    have : ((b[(bInts b).idxOf k].toNat : Nat) : Int) = k := by
      have gen : ∀ i (h1 : i < b.length) (h2 : i < (bInts b).length), ((b[i].toNat : Nat) : Int) = (bInts b)[i] := fun i h1 h2 => by simp [bInts]
      exact (gen _ hl' hl).trans hg
    rw [this] at e
    exact e
  · rw [if_neg hk]
    refine hs.2 k fun i c _ e q => hk ?_
    subst q
    exact List.mem_map.mpr ⟨c, List.mem_of_getElem? e, rfl⟩

section
variable {prog : Program} {w : World} {A : Around} {env : Env} {bad : List Addr} {s s' : Shared} {D : Dt} {σ : List (Str × PV)}

/-- the block of the table's comprehension -/
theorem tab_block {x y : Str} {p1 p2 px py tp : Pos} {k : Nat} {iter : Expr} {scope : Scope} {cl : List (Str × Addr)} {pos : Pos} {s₂ : Shared} {I : Addr} {fp wr : List Addr} {b : List UInt8} {Pt : Nat → Array Value → Prop} {St : Nat → Heap → Prop} {Mid : Nat → Addr → Heap → Prop} {E : Value → Shared → Prop}
    (hh : A.handled = none) (W : WalksT prog w A I fp wr b.length Pt St Mid) (hPt : ∀ i vals, Pt i vals → ∃ t c u, b[i]? = some c ∧ vals = #[.int i t, .int (c.toNat : Int) u]) (hsz : b.length ≤ sizeLine) {RR : Value → Addr → Result → Shared → Prop}
    (hcell : ∀ y ∈ scope.names, y.2 ≠ .cell) (hkind : scope.kind = .function) (hx : scope.names.lookup x = some .local) (hy : scope.names.lookup y = some .local) (hdx : (x == ("__debug__" : Str)) = false) (hdy : (y == ("__debug__" : Str)) = false) (hxy : y ≠ x)
    (hst : St 0 s₂.heap) (hfp : ∀ b ∈ fp, b < s₂.heap.objs.size)
    (hRR : ∀ D C h' tk m' kvs, D = s₂.heap.objs.size → s₂.heap.get? D = none → C = s₂.heap.objs.size + 1 → s₂.heap.get? C = none → D ≠ C → h'.Ns C m' → h'.DictOf (intKind prog w) D kvs → Tab b b.length kvs →
      (∀ b o, b ∉ wr → s₂.heap.get? b = some o → h'.get? b = some o) → RR (.ref D) C (.ok .next) { s₂ with heap := h', toks := tk }) :
    wpAny (model prog w) A newDict (fun acc s₃ => wpAny (model prog w) A (newFunctionEnv scope env.globals cl [] env.qual none .none (some env)) (fun cenv s₄ =>
      codeAny (model prog w) A (.compStart (.DictComp (.Name y p1) (.Name x p2) [⟨.Tuple [.Name x px, .Name y py] k tp, iter, [], 0⟩] scope pos) 0 (.ref I) acc { cenv with scope := relabel scope env }) (RR acc cenv.locals) s₄) E s₃) E s₂ := by
  have z : s₂.heap.objs.size ≠ s₂.heap.objs.size + 1 := Nat.ne_of_lt (Nat.lt_succ_self _)
  have off : ∀ {c x}, s₂.heap.get? c = some x → c ≠ s₂.heap.objs.size + 1 ∧ c ≠ s₂.heap.objs.size := fun e => ⟨Nat.ne_of_lt (Nat.lt_succ_of_lt (Heap.lt_size e)), Nat.ne_of_lt (Heap.lt_size e)⟩
  have none_at : ∀ c, s₂.heap.objs.size ≤ c → s₂.heap.get? c = none := fun c hc => Option.eq_none_iff_forall_not_mem.mpr fun x e => Nat.not_lt.mpr hc (Heap.lt_size e)
  refine wpAny_newObj_type (gather_frame (s := s₂) (K := fun e s' => codeAny (model prog w) A (.compStart (.DictComp (.Name y p1) (.Name x p2) [⟨.Tuple [.Name x px, .Name y py] k tp, iter, [], 0⟩] scope pos) 0 (.ref I) (.ref s₂.heap.objs.size) e) (RR (.ref s₂.heap.objs.size) e.locals) s') hcell hkind rfl fun h hD ⟨m, hn⟩ up => ?_)
  have st := W.frame _ _ _ hst fun c _ x e => up c x e
  have run := compLoop_tab (s := { s₂ with heap := h }) (cenv := compEnvC scope cl (s₂.heap.objs.size + 1) env) (p1 := p1) (p2 := p2) (px := px) (py := py) (tp := tp) (k := k) (iter := iter) (scope := scope) (pos := pos) (Da := s₂.heap.objs.size) (R := RR (.ref s₂.heap.objs.size) (s₂.heap.objs.size + 1)) hh W hPt hkind (lookup_relabel_local hx) (lookup_relabel_local hy) hdx hdy hxy z (fun q => Nat.lt_irrefl _ (hfp _ q)) (fun q => Nat.lt_irrefl _ (Nat.lt_of_succ_lt (hfp _ q))) st
    ((Heap.DictOf.new s₂.heap).at fun x e => hD.trans ((Heap.get?_push_size _ rfl).symm.trans e)) hn (fun h' tk m' kvs a b c d => hRR _ _ h' tk m' kvs rfl (none_at _ (Nat.le_refl _)) rfl (none_at _ (Nat.le_succ _)) z a b c fun q x hq e => d q x (off e).1 hq (off e).2 (up q x e)) hsz
  exact codeAny_compStart_dict run (W.self 0 _ _ _ st run)

/-- the comprehension {y: x for x, y in enumerate(e)}, whatever uses it -/
theorem tab_compr (C : Cx prog w A env s D σ) {f x y : Str} {np cpos p1 p2 px py tp pos pos' : Pos} {k : Nat} {e : Expr} {scope : Scope} {cl : List (Str × Addr)} {b : List UInt8} {use : Option (Value → Sem Unit)} {Q E : Value → Shared → Prop} {s₁ : Shared}
    (hk : env.kindOf f = some .globalImplicit) (hD : D.names.lookup f = some (.type "enumerate")) (hd : (f == ("__debug__" : Str)) = false) (he : Ev prog w A env [] s e (.bytes b)) (hse : starEach [e] env = [(false, eval e env)])
    (hclos : closureFor scope env = pure cl) (hcell : ∀ y ∈ scope.names, y.2 ≠ .cell) (hkind : scope.kind = .function) (hnames : ∀ y ∈ scope.names, y.2 = .local → scope.names.lookup y.1 = some .local)
    (hx : scope.names.lookup x = some .local) (hy : scope.names.lookup y = some .local) (hdx : (x == ("__debug__" : Str)) = false) (hdy : (y == ("__debug__" : Str)) = false) (hxy : y ≠ x)
    (hs : ∀ v, foldedSetIterable (.Call (.Name f np) [e] [] cpos) env v = pure v) (hnd : b.Nodup) (hz : b.length ≤ 1000) (k₁ : Hx s s₁)
    (h : ∀ Dd Cc s₂ m' kvs, Kp s₁ s₂ → (∀ b o, s₁.heap.get? b = some o → b ≠ Dd ∧ b ≠ Cc) → Dd ≠ Cc → (Dd == sysModules) = false → s₂.heap.Ns Cc m' → s₂.heap.DictOf (intKind prog w) Dd kvs → Tab b b.length kvs →
      compPost (model prog w) A E use Q (.ref Dd) Cc (.ok .next) s₂) :
    wpAny (model prog w) A (comprehension (.DictComp (.Name y p1) (.Name x p2) [⟨.Tuple [.Name x px, .Name y py] k tp, .Call (.Name f np) [e] [] cpos, [], 0⟩] scope pos) scope env pos' newDict false (eval (.Call (.Name f np) [e] [] cpos) env) use) Q E s₁ := by
  refine wpAny_comprehension_free rfl hs hclos hkind hnames ?_
  have hx' : backTo cpos (starEach [e] env) = [(false, eval e env)] := by rw [hse]; rfl
  refine wpAny_Call_NameR (gname C hk hD hd k₁ (PySem.callWith_type (by rw [hse]; rfl) ?_))
  have tail : ∀ v s₂, Kp s₁ s₂ → Rep prog w [] s₂.heap v (.bytes b) → wpAny (model prog w) A (call (.type "enumerate") ([] ++ [v]) [])
      (fun x_1 s₁ => wpAny (model prog w) A (pyIter x_1) (fun it s₂ => wpAny (model prog w) A newDict (fun acc s₃ => wpAny (model prog w) A (newFunctionEnv scope env.globals cl [] env.qual none .none (some env)) (fun cenv s₄ =>
        codeAny (model prog w) A (.compStart (.DictComp (.Name y p1) (.Name x p2) [⟨.Tuple [.Name x px, .Name y py] k tp, .Call (.Name f np) [e] [] cpos, [], 0⟩] scope pos) 0 it acc { cenv with scope := relabel scope env }) (compPost (model prog w) A E use Q acc cenv.locals) s₄) E s₃) E s₂) E s₁) E s₂ := by
    intro v s₂ k₂ rv
    obtain ⟨t, rfl⟩ := rv
    refine call_enumB fun h' hE hB hz' hk' => ?_
    have W := WalksT.enumerateD (drawsB (prog := prog) (w := w) (A := A.in1) C.hh s₂.heap.objs.size b.toArray t) (s₂.heap.objs.size + 1) (Nat.ne_of_gt (Nat.lt_succ_self _)) (by simp) (by simp)
    have hsz : b.toArray.size = b.length := by simp
    rw [hsz] at W
    have hst : (∃ old, IsEnum h' (s₂.heap.objs.size + 1) s₂.heap.objs.size (0 : Nat) old) ∧ IsBytesIter h' s₂.heap.objs.size b.toArray t 0 := ⟨⟨_, hE⟩, hB⟩
    refine W.self 0 _ _ _ hst ?_
    refine tab_block C.hh W (fun i vals hP => ?_) (by rw [sizeLine_eq]; omega) hcell hkind hx hy hdx hdy hxy hst (fun a ha => ?_) ?_
    · obtain ⟨t', x', ⟨c, u, e1, rfl⟩, rfl⟩ := hP
      exact ⟨t', c, u, by simpa using e1, rfl⟩
    · show a < h'.objs.size
      rw [hz']
      simp only [List.mem_cons, List.not_mem_nil, or_false] at ha
      rcases ha with rfl | rfl
      · exact Nat.lt_succ_self _
      · exact Nat.lt_succ_of_lt (Nat.lt_succ_self _)
    · intro Dd Cc h'' tk m' kvs hDz hDd hCz hCc hDC hn hl hT hk
      have hkk : ∀ b' o, s₂.heap.get? b' = some o → h''.get? b' = some o := fun b' o e => hk b' o (fun hm => by
        simp only [List.mem_cons, List.not_mem_nil, or_false] at hm
        have := Heap.lt_size e
        rcases hm with rfl | rfl
        · exact absurd this (Nat.not_lt.mpr (Nat.le_succ _))
        · exact absurd this (Nat.lt_irrefl _)) (hk'.get b' o e)
      have hle : s₂.heap.objs.size ≤ Dd := by rw [hDz, hz']; exact Nat.le_add_right _ _
      have hle2 : s₂.heap.objs.size ≤ Cc := by rw [hCz, hz']; exact Nat.le_trans (Nat.le_add_right _ 2) (Nat.le_succ _)
      refine h Dd Cc _ m' kvs (k₂.trans (Kp.of _ hkk)) (fun b' o e => ⟨fun q => ?_, fun q => ?_⟩) hDC ?_ hn hl hT
      · exact absurd (Heap.lt_size (k₂.get _ _ e)) (Nat.not_lt.mpr (q ▸ hle))
      · exact absurd (Heap.lt_size (k₂.get _ _ e)) (Nat.not_lt.mpr (q ▸ hle2))
      obtain ⟨mg, mb, ⟨og, _, _, hog, _⟩, _, _⟩ := (C.gf.up (k₁.trans k₂).get).look
      have h3 := Heap.lt_size hog
      have hlt : mainGlobals < Dd := Nat.lt_of_lt_of_le h3 hle
      have : Dd ≠ sysModules := fun q => by rw [q] at hlt; exact absurd hlt (by decide)
      simpa using this
  have sp : ∀ K : Value → Shared → Prop, (∀ v s₂, Kp s₁ s₂ → Rep prog w [] s₂.heap v (.bytes b) → wpAny (model prog w) A (call (.type "enumerate") ([] ++ [v]) []) K E s₂) →
      wpAny (model prog w) A (spliced (backTo cpos (starEach [e] env))) (fun vs s' => wpAny (model prog w) A (call (.type "enumerate") ([] ++ vs) []) K E s') E s₁ := fun K hK =>
    wpAny_items_cons (he s₁ _ _ k₁ fun v s₂ k₂ rv => wpAny_items_nil (hK v s₂ k₂ rv)) hse
  have sp := sp _ tail
  rw [hx'] at sp ⊢
  exact evalArgs_plain sp

theorem EvF.tab (C : Cx prog w A env s D σ) {f x y : Str} {np cpos p1 p2 px py tp pos : Pos} {k : Nat} {e : Expr} {scope : Scope} {cl : List (Str × Addr)} {b : List UInt8}
    (hk : env.kindOf f = some .globalImplicit) (hD : D.names.lookup f = some (.type "enumerate")) (hd : (f == ("__debug__" : Str)) = false) (he : Ev prog w A env [] s e (.bytes b)) (hse : starEach [e] env = [(false, eval e env)])
    (hclos : closureFor scope env = pure cl) (hcell : ∀ y ∈ scope.names, y.2 ≠ .cell) (hkind : scope.kind = .function) (hnames : ∀ y ∈ scope.names, y.2 = .local → scope.names.lookup y.1 = some .local)
    (hx : scope.names.lookup x = some .local) (hy : scope.names.lookup y = some .local) (hdx : (x == ("__debug__" : Str)) = false) (hdy : (y == ("__debug__" : Str)) = false) (hxy : y ≠ x)
    (hs : ∀ v, foldedSetIterable (.Call (.Name f np) [e] [] cpos) env v = pure v) (hnd : b.Nodup) (hz : b.length ≤ 1000) :
    EvF prog w A env s (.DictComp (.Name y p1) (.Name x p2) [⟨.Tuple [.Name x px, .Name y py] k tp, .Call (.Name f np) [e] [] cpos, [], 0⟩] scope pos) (.dict (place b)) := fun s' bad k₀ hb s₁ Q E k₁ hQ => by
  rw [arm_eval_DictComp]
  refine tab_compr C hk hD hd he hse hclos hcell hkind hnames hx hy hdx hdy hxy hs hnd hz (k₀.tr k₁) fun Dd Cc s₂ m' kvs k₂ hfr hDC hsys hn hl hT => ⟨m', hn, fun h' hs' => ?_⟩
  replace hs' : Heap.SameBut Cc s₂.heap h' := hs'
  refine hQ _ _ ?_ ⟨Dd, kvs, rfl, fun q => ?_, hsys, hl.at fun o e => (hs'.2 Dd hDC).trans e, fun q => hT.rep hnd q⟩
  · obtain ⟨h2, t2, rfl, k2⟩ := k₂
    exact ⟨h', t2, rfl, fun b' o e => (hs'.2 b' (hfr b' o e).2).trans (k2 b' o e)⟩
  · obtain ⟨o, ho⟩ := (hb.up k₁) _ q
    exact (hfr _ _ ho).1 rfl

/-- y = {…}, either way -/
theorem Z.tab {s₀ : Shared} {loc : List (Str × PV)} {kp : List (Addr × Obj)} {Φ : Flow → Shared → Prop} {E : Value → Shared → Prop} {rest : List Stmt} (F : Fx prog w A env s₀ D) (S : St prog w env s₀ kp loc s) (C : Cx prog w A env s D σ) {f x y z : Str} {np cpos p1 p2 px py pz tp pos spos : Pos} {k : Nat} {e : Expr} {scope : Scope} {cl : List (Str × Addr)} {b : List UInt8}
    (hsw : swapsWith (.DictComp (.Name y p1) (.Name x p2) [⟨.Tuple [.Name x px, .Name y py] k tp, .Call (.Name f np) [e] [] cpos, [], 0⟩] scope pos) (some (.Name z pz)) spos.line env = pure true) (hz' : env.kindOf z = some .local)
    (hk : env.kindOf f = some .globalImplicit) (hD : D.names.lookup f = some (.type "enumerate")) (hd : (f == ("__debug__" : Str)) = false) (he : Ev prog w A env [] s e (.bytes b)) (hse : starEach [e] env = [(false, eval e env)])
    (hclos : closureFor scope env = pure cl) (hcell : ∀ y ∈ scope.names, y.2 ≠ .cell) (hkind : scope.kind = .function) (hnames : ∀ y ∈ scope.names, y.2 = .local → scope.names.lookup y.1 = some .local)
    (hx : scope.names.lookup x = some .local) (hy : scope.names.lookup y = some .local) (hdx : (x == ("__debug__" : Str)) = false) (hdy : (y == ("__debug__" : Str)) = false) (hxy : y ≠ x)
    (hs : ∀ v, foldedSetIterable (.Call (.Name f np) [e] [] cpos) env v = pure v) (hnd : b.Nodup) (hz : b.length ≤ 1000)
    (hK : ∀ s', St prog w env s₀ kp ((z, .dict (place b)) :: loc) s' → wpAny (model prog w) A (execs rest env) Φ E s') :
    wpAny (model prog w) A (execs (.Assign [.Name z pz] (.DictComp (.Name y p1) (.Name x p2) [⟨.Tuple [.Name x px, .Name y py] k tp, .Call (.Name f np) [e] [] cpos, [], 0⟩] scope pos) spos :: rest) env) Φ E s := by
  obtain ⟨m, cm, S⟩ := S
  refine Z.seq ?_
  rw [exec_Assign_Name_used _ _ _ _ hsw]
  refine wpAny_bind (wpAny_standAt (wpAny_bind ?_))
  show wpAny _ A (do let _ ← comprehension _ scope env _ newDict false (eval (.Call (.Name f np) [e] [] cpos) env) (some (PySem.assign (.Name z pz) env))) _ _ s
  refine wpAny_bind (wpAny_mono (tab_compr (Q := fun _ s' => wpAny (model prog w) A (execs rest env) Φ E s') C hk hD hd he hse hclos hcell hkind hnames hx hy hdx hdy hxy hs hnd hz (Hx.refl s) fun Dd Cc s₂ m' kvs k₂ hfr hDC hsys hn hl hT => ?_) (fun _ s' hq => wpAny_pure (wpAny_pure hq)) fun _ _ e => e)
  have S₂ := S.kept k₂
  have hLC : env.locals ≠ Cc := by
    obtain ⟨o, _, _, ho, _⟩ := S.X.toInCall.ns
    exact (hfr _ _ ho).2
  have hLD : env.locals ≠ Dd := by
    obtain ⟨o, _, _, ho, _⟩ := S.X.toInCall.ns
    exact (hfr _ _ ho).1
  show wpAny _ A (PySem.assign (.Name z pz) env (.ref Dd)) _ _ _
  refine wpAny_assign_Name (wpAny_storeName_local hz' S₂.X.toInCall.ns (fun h₂ hn₂ hs₂ => ?_) (by rw [F.kind]; rfl))
  replace hs₂ : Heap.SameBut env.locals s₂.heap h₂ := hs₂
  refine ⟨m', hn.sameBut hs₂ hLC.symm, fun h₃ hs₃ => ?_⟩
  replace hs₃ : Heap.SameBut Cc h₂ h₃ := hs₃
  have X := S.X
  have hout : ∀ b o, b ≠ env.locals → s.heap.get? b = some o → h₃.get? b = some o := fun b o hb e => (hs₃.2 b (hfr b o e).2).trans (hs₂.extBut b o hb (k₂.get b o e))
  have hs' : Heap.ExtBut env.locals s.heap h₃ := fun b o hb e => hout b o hb e
  have hvl : ∀ y, vl env (fun y => if y = z then some (.ref Dd) else m y) cm y = if y = z then some (.ref Dd) else vl env m cm y := fun y => vl_set_local hz'
  have hl₃ : h₃.DictOf (intKind prog w) Dd kvs := (hl.at fun o e => hs₂.extBut Dd o (fun q => hLD q.symm) e).at fun o e => (hs₃.2 Dd hDC).trans e
  refine hK _ ⟨_, cm, S.put (s' := { s₂ with heap := h₃, toks := s₂.toks + 1 }) (v := .ref Dd) hvl ⟨⟨?_, hn₂.sameBut hs₃ hLC, fun b o e => ?_, X.toInCall.fresh⟩, fun n c hc => ?_, X.apart, X.above⟩ (fun u q r hne => r.odd hs' (odd_locals S) hne) (fun q hq => hout _ _ (S.K q hq).2.1 (S.K q hq).1) ?_⟩
  · obtain ⟨h₁, tk₁, e1⟩ := X.toInCall.same
    obtain ⟨h₂', tk₂, rfl, _⟩ := k₂
    subst e1
    exact ⟨h₃, _, rfl⟩
  · exact hout b o (Nat.ne_of_lt (Nat.lt_of_lt_of_le (Heap.lt_size e) X.toInCall.fresh)) (X.toInCall.keep b o e)
  · obtain ⟨o, ho, hd⟩ := X.cell n c hc
    exact ⟨o, hout c o (Nat.ne_of_gt (X.above n c (mem_of_lookup hc))) ho, hd⟩
  · exact ⟨Dd, kvs, rfl, fun q => by
      obtain ⟨o, ho⟩ := S.busy _ q
      exact (hfr _ _ ho).1 rfl, hsys, hl₃, fun q => hT.rep hnd q⟩
end
end B58

namespace B58

section
variable {prog : Program} {w : World} {A : Around} {env : Env} {bad : List Addr} {s s' : Shared} {D : Dt} {σ : List (Str × PV)}

/-- a def called by pure arguments and one named one -/
def FnK (prog : Program) (w : World) (A : Around) (D : Dt) (fa : Addr) (ps : List PV) (kn : Str) (kp : PV) (r : PV) : Prop :=
  ∀ bad s vs kv, GF s.heap D → Live bad s → Reps prog w [] s.heap vs ps → Rep prog w [] s.heap kv kp → Op prog w A bad s (call (.ref fa) vs [(kn, kv)]) r

theorem Reps.flatUp {h h' : Heap} {vs : List Value} {ps : List PV} (r : Reps prog w bad h vs ps) (hk : ∀ b o, h.get? b = some o → h'.get? b = some o) : Reps prog w bad h' vs ps := r.up hk

theorem Ev.callK (C : Cx prog w A env s D σ) {x : Str} {fa : Addr} {o : Obj} {fd : FuncData} {np pos kpos : Pos} {e ke : Expr} {es : List Expr} {ps : List PV} {kn : Str} {kp r : PV} (hk : env.kindOf x = some .globalImplicit) (hD : D.names.lookup x = some (.ref fa)) (hd : (x == ("__debug__" : Str)) = false)
    (ho : (fa, o) ∈ D.objs) (hfd : o.data = .func fd) (ha : EvArgs prog w A env s (e :: es) ps) (hke : Ev prog w A env [] s ke kp) (hb : Live bad s)
    (H : FnK prog w A D fa ps kn kp r) : Ev prog w A env bad s (.Call (.Name x np) (e :: es) [⟨some kn, ke, kpos⟩] pos) r := fun s₁ Q E k₁ hQ =>
  wpAny_Call_Name_kw (gname C hk hD hd k₁ (callWith_function_kw (o := o) (fd := fd) (by
    cases ha with
    | cons he hs hr =>
      have hx : backTo pos (starEach (e :: es) env) = (false, eval e env) :: backTo pos (starEach es env) := by rw [hs]; rfl
      have sp := (EvArgs.cons he hs hr).sound (pos := pos) s₁ (fun vs s' => wpAny (model prog w) A (evalAll ((backToKw pos (keywordEach [⟨some kn, ke, kpos⟩] env)).map (·.2))) (fun ks s₂ => (s₂.heap.get? fa = some o ∧ o.data = .func fd) ∧ wpAny (model prog w) A (call (.ref fa) ([] ++ vs) (((backToKw pos (keywordEach [⟨some kn, ke, kpos⟩] env)).filterMap (·.1)).zip ks)) Q E s₂) E s') E k₁ fun vs s₂ k₂ rv => by
        refine kwAll_cons (hke s₂ _ _ (k₁.trans k₂) fun v s₃ k₃ r₃ => ?_)
        refine kwAll_nil ?_
        have G := (C.gf.up k₁.get).up (k₂.trans k₃).get
        exact ⟨⟨G.objs _ ho, hfd⟩, H bad s₃ vs v G (hb.up (k₁.trans (k₂.trans k₃))) (rv.up k₃.get) r₃ _ _ fun u s₄ k₄ r₄ => hQ u s₄ ((k₂.trans k₃).trans k₄) r₄⟩
      exact evalArgs_kw2 rfl sp hs)))
theorem FnK.mk {kn : Str} {kp : PV} {fa : Addr} {o : Obj} {fd : FuncData} {body : List Stmt} {ps : List PV} {loc : List (Str × PV)} {r : PV} (hroom : A.depth < recursionLimit) (hh : A.handled = none) (ho : (fa, o) ∈ D.objs) (hfd : o.data = .func fd) (hbody : fd.body = .stmts body) (hclo : fd.closure = [])
    (hcd : ∀ h, GF h D → h.CodeRec fd.code fd.qualname)
    (hbind : ∀ s vs kv, GF s.heap D → Reps prog w [] s.heap vs ps → Rep prog w [] s.heap kv kp → ∃ binds, BindsTo s fd ⟨vs, [(kn, kv)]⟩ binds ∧ Bd prog w s.heap binds loc) (hnd : (loc.map (·.1)).Nodup)
    (hown : ∀ L q, q ∈ loc → Own (callEnvC fd L fa) q.1)
    (hglob : fd.globals = mainGlobals) (hbi : fd.builtins = builtinsNs)
    (hco : fd.scope.isCoroutine = false) (hgen : fd.scope.isGenerator = false) (hk : fd.scope.kind = .function)
    (H : ∀ (bad : List Addr) (s₀ s : Shared) (E : Value → Shared → Prop) (Φ : Flow → Shared → Prop), Live bad s₀ → Fx prog w (A.deeper (callEnvC fd s₀.heap.objs.size fa)) (callEnvC fd s₀.heap.objs.size fa) s₀ D →
      St prog w (callEnvC fd s₀.heap.objs.size fa) s₀ [] loc s → (∀ v s', Kp s₀ s' → Rep prog w bad s'.heap v r → Φ (.ret v) s') →
      wpAny (model prog w) (A.deeper (callEnvC fd s₀.heap.objs.size fa)) (execs body (callEnvC fd s₀.heap.objs.size fa)) Φ E s) : FnK prog w A D fa ps kn kp r := by
  intro bad s vs kv G hL hr hkv Q E hQ
  obtain ⟨binds, hb, hB⟩ := hbind s vs kv G hr hkv
  have hO : ∀ q ∈ binds, Own (callEnvC fd s.heap.objs.size fa) q.1 := fun q hq => by
    have hkeys : binds.map (·.1) = loc.map (·.1) := by
      clear hb hbind hown hnd H hq
      induction hB with
      | nil => rfl
      | cons _ _ _ ih => simp [ih]
    have : q.1 ∈ loc.map (·.1) := hkeys ▸ List.mem_map_of_mem hq
    obtain ⟨q', hq', e⟩ := List.mem_map.mp this
    rw [← e]; exact hown _ q' hq'
  refine wpAny_call (codeAny_call_function hroom (G.objs _ ho) hfd hco hgen hbody (hcd _ G) (hb _ _ _ _ ?_))
  rw [hclo]
  refine wpAny_newFunctionEnv_cells hk (fun x hx => ?_) fun env he s' x => ?_
  · rcases hO x hx with h | ⟨h, h'⟩
    · exact .inl h
    · exact .inr ⟨h, h'⟩
  · subst he
    refine ⟨G.nolimit.keeps x.toInCall.keep, codeAny_func ?_⟩
    refine H bad s s' _ _ hL ⟨hh, hk, hglob, hbi, G⟩ ⟨_, _, x, fun y p e => ?_, fun y z p q a hyz e e' hp => ?_, fun q hq => by cases hq⟩ fun v s₂ k₂ r₂ => hQ v s₂ k₂ r₂
    · obtain ⟨v, h1, h2, h3⟩ := hB.look hnd e
      refine ⟨v, ?_, h2.up x.toInCall.keep, fun hp => by rw [h3] at hp; cases hp⟩
      have := bind_vl (env := callEnvC fd s.heap.objs.size fa) binds (fun _ => none) (fun _ => none) hO y
      rw [h1] at this
      exact this
    · obtain ⟨v, h1, h2, h3⟩ := hB.look hnd e
      rw [h3] at hp; cases hp
end
end B58

namespace B58

theorem Tr.cast {prog : Program} {w : World} {A : Around} {env : Env} {s : Shared} {e : Expr} {b b' : Bool} (h : Tr prog w A env s e b) (hb : b = b') : Tr prog w A env s e b' := hb ▸ h
theorem Ev.cast {prog : Program} {w : World} {A : Around} {env : Env} {bad : List Addr} {s : Shared} {e : Expr} {p q : PV} (h : Ev prog w A env bad s e p) (hp : p = q) : Ev prog w A env bad s e q := hp ▸ h

def nameOf (p : Program) (i : Nat) : Str := match p.main.body[i]? with | some (.FunctionDef n ..) => n | _ => Str.empty
def paramsOf (p : Program) (i : Nat) : Arguments := match p.main.body[i]? with | some (.FunctionDef _ a ..) => a | _ => default
def bodyOf (p : Program) (i : Nat) : List Stmt := match p.main.body[i]? with | some (.FunctionDef _ _ b ..) => b | _ => []
def scopeOf (p : Program) (i : Nat) : Scope := match p.main.body[i]? with | some (.FunctionDef _ _ _ _ _ _ s ..) => s | _ => default
/-- a def of the text, as the top leaves it -/
def mkF (p : Program) (i : Nat) (dV kV doc pm cdv ct : Value) (an : Option Addr) : FuncData :=
  { name := nameOf p i, qualname := nameOf p i, params := paramsOf p i, body := .stmts (bodyOf p i), scope := scopeOf p i, globals := mainGlobals, closure := [], defaults := dV, kwdefaults := kV, doc := doc, pyModule := pm, annotations := an, code := cdv, closureTuple := ct, builtins := builtinsNs }

/-- the digits of a number, the greatest first -/
def digs (b : Nat) (n : Nat) : List Nat := if h : n = 0 ∨ b < 2 then [] else digs b (n / b) ++ [n % b]
  termination_by n
  decreasing_by exact Nat.div_lt_self (by omega) (by omega)
/-- a number's text -/
def enc (al : List UInt8) (n : Nat) : List UInt8 := (digs al.length n).map fun d => al.getD d 0

theorem digs_zero (b : Nat) : digs b 0 = [] := by unfold digs; simp
theorem digs_pos {b n : Nat} (hb : 2 ≤ b) (hn : n ≠ 0) : digs b n = digs b (n / b) ++ [n % b] := by
  rw [digs, dif_neg (by omega)]
theorem digs_lt {b : Nat} (hb : 2 ≤ b) : ∀ n, ∀ d ∈ digs b n, d < b := by
  intro n
  induction n using Nat.strongRecOn with
  | _ n ih =>
    intro d hd
    by_cases hn : n = 0
    · subst hn; rw [digs_zero] at hd; cases hd
    · rw [digs_pos hb hn] at hd
      rcases List.mem_append.mp hd with h | h
      · exact ih (n / b) (Nat.div_lt_self (by omega) (by omega)) d h
      · rw [List.mem_singleton.mp h]; exact Nat.mod_lt _ (by omega)
theorem digs_len {b : Nat} (hb : 2 ≤ b) : ∀ k n, n < 2 ^ k → (digs b n).length ≤ k
  | 0, n, h => by
    have : n = 0 := by simpa using h
    subst this; rw [digs_zero]; exact Nat.le_refl _
  | k + 1, n, h => by
    by_cases hn : n = 0
    · subst hn; rw [digs_zero]; exact Nat.zero_le _
    · rw [digs_pos hb hn, List.length_append, List.length_singleton]
      have : n / b < 2 ^ k := by
        have h1 : n / b ≤ n / 2 := Nat.div_le_div_left hb (by omega)
        have h2 : n / 2 < 2 ^ k := by
          rw [Nat.div_lt_iff_lt_mul (by omega)]
          rw [Nat.pow_succ] at h; omega
        omega
      have := digs_len hb k _ this
      omega
theorem enc_len {al : List UInt8} (hb : 2 ≤ al.length) {k n : Nat} (h : n < 2 ^ k) : (enc al n).length ≤ k := by unfold enc; rw [List.length_map]; exact digs_len hb k n h

theorem cut_one {al : List UInt8} {d : Nat} (h : d < al.length) : cut al (some ((d : Nat) : Int)) (some (((d : Nat) : Int) + 1)) = [al.getD d 0] := by
  unfold cut
  have h1 : clipAt al.length ((d : Nat) : Int) = d := by unfold clipAt; omega
  have h2 : clipAt al.length (((d : Nat) : Int) + 1) = d + 1 := by unfold clipAt; omega
  simp only [Option.elim, h1, h2]
  rw [show d + 1 - d = 1 by omega, List.drop_eq_getElem_cons h, List.take_succ_cons, List.take_zero, List.getD_eq_getElem?_getD, List.getElem?_eq_getElem h]
  rfl

section
variable {prog : Program} {w : World} {A : Around} {D : Dt}
abbrev PW := PySem.Challenge.pw_fe0037_03

theorem enc_fn {fa : Addr} {kV doc pm cdv ct : Value} {an : Option Addr} {T : Addr} {d1 d2 : Value} {nT : Nat} {oc : Value} {od : Option Addr} {sl : Array (Option Value)}
    (hroom : A.depth < recursionLimit) (hh : A.handled = none) (ho : (fa, (⟨oc, od, .func (mkF PW 3 (.ref T) kV doc pm cdv ct an), sl⟩ : Obj)) ∈ D.objs)
    (hcd : ∀ h, GF h D → h.CodeRec cdv (nameOf PW 3)) (hT : (T, ({ cls := .type "tuple", data := .seq #[d1, d2] nT } : Obj)) ∈ D.objs)
    (hlen : D.names.lookup (Str.ofString "len") = some (.builtin "len")) (hdm : D.names.lookup (Str.ofString "divmod") = some (.builtin "divmod"))
    {n : Nat} {d : Bool} {al : List UInt8} (hal : 2 ≤ al.length) (hal' : al.length ≤ 1000) (hn : n < 2 ^ 4000) (hd : n ≠ 0 ∨ d = false) :
    FnR prog w A D fa [.int n, .bool d, .bytes al] (.bytes (enc al n)) := by
  refine FnR.mk (loc := [("i", .int n), ("default_one", .bool d), ("alphabet", .bytes al)]) hroom hh ho rfl rfl rfl hcd (fun s vs G hr => ?_) (show ([("i" : Str), "default_one", "alphabet"]).Nodup by decide) (fun L q hq => ?_) rfl rfl rfl rfl rfl ?_
  · cases hr with
    | cons r1 hr => cases hr with
      | cons r2 hr => cases hr with
        | cons r3 hr =>
          cases hr
          exact ⟨_, BindsTo.of_defaults rfl (G.objs _ hT) rfl rfl rfl, .cons r1 rfl (.cons r2 rfl (.cons r3 rfl .nil))⟩
  · simp only [List.mem_cons, List.not_mem_nil, or_false] at hq
    rcases hq with rfl | rfl | rfl <;> exact .inl rfl
  · intro bad s₀ s E Φ hL F S hret
    have C := S.cx F rfl
    refine Z.skip S (Tr.cast (Tr.boolop (.and (Tr.not (Tr.val (Ev.name0 C rfl) TruR.int)) fun _ => .and (Tr.val (Ev.name0 C rfl) TruR.bool) fun _ => .andNil)) ?_) fun s S => ?_
    · rcases hd with h | h
      · have : ((n : Int) != 0) = true := by simp; omega
        simp [this]
      · simp [h]
    refine Z.assign F S (EvF.of Ev.cBytes rfl) (.inl rfl) rfl fun s S => ?_
    have C := S.cx F rfl
    refine Z.assign F S (EvF.of (Ev.callB C rfl hlen rfl (.cons (Ev.name0 C rfl) rfl .nil) (fun b hb => by cases hb) (CallR.lenB (by omega))) rfl) (.inl rfl) rfl fun s S => ?_
    refine Z.whl (τ := Nat × List UInt8) (fun a => [("i", .int a.1), ("string", .bytes a.2), ("base", .int al.length), ("alphabet", .bytes al)]) (fun a => enc al a.1 ++ a.2 = enc al n ∧ a.1 ≤ n) (fun a => a.1) (fun a => (a.1 : Int) != 0) (n, [])
      (S.re _ ⟨rfl, rfl, rfl, rfl, trivial⟩) ⟨by simp, Nat.le_refl _⟩ (fun a s ha S => ?_) (fun a s Φ' E' ha hb S hk => ?_) (fun a s ha hb S => ?_)
    · exact Tr.val (Ev.name0 (S.cx F rfl) rfl) TruR.int
    · obtain ⟨i, str⟩ := a
      obtain ⟨h1, h2⟩ := ha
      simp only at h1 h2 hb
      have C := S.cx F rfl
      have hb0 : ((al.length : Nat) : Int) ≠ 0 := by omega
      have hsm : Sm ((al.length : Nat) : Int) := by
        unfold Sm
        exact Nat.lt_of_le_of_lt (show ((al.length : Nat) : Int).natAbs ≤ 1000 by omega) (by decide)
      refine Z.unpack2 F S (Ev.callB C rfl hdm rfl (.cons (Ev.name0 C rfl) rfl (.cons (Ev.name0 C rfl) rfl .nil)) (fun b hb => by cases hb) (CallR.divmod hb0 hsm)) (.inl rfl) (.inl rfl) rfl rfl fun s S => ?_
      have C := S.cx F rfl
      have hi0 : i ≠ 0 := by intro e; subst e; simp at hb
      have hmod : (i : Int).fmod (al.length : Int) = ((i % al.length : Nat) : Int) := by rw [Int.fmod_eq_emod_of_nonneg _ (by omega)]; rfl
      have hdiv : (i : Int).fdiv (al.length : Int) = ((i / al.length : Nat) : Int) := by rw [Int.fdiv_eq_ediv_of_nonneg _ (by omega)]; rfl
      rw [hmod, hdiv] at S
      have C := S.cx F rfl
      have hlt : i % al.length < al.length := Nat.mod_lt _ (by omega)
      have hstep : enc al (i / al.length) ++ ([al.getD (i % al.length) 0] ++ str) = enc al n := by
        rw [← h1]
        unfold enc
        rw [digs_pos hal hi0, List.map_append]
        simp
      have hlen : ([al.getD (i % al.length) 0] ++ str).length ≤ 4000 := by
        have h3 := enc_len hal hn
        rw [← hstep, List.length_append] at h3
        omega
      refine Z.assign F S (EvF.of (Ev.bin (Ev.cutB (Ev.name0 C rfl) (.some (Ev.name0 C rfl)) (.some (Ev.bin (Ev.name0 C rfl) Ev.cInt (fun b hb => by cases hb) BinR.add)) (by omega)) (Ev.name0 C rfl) (fun b hb => by cases hb) (BinR.cat (by rw [cut_one hlt]; show _ + str.length ≤ _; rw [List.length_append] at hlen; omega))) rfl) (.inl rfl) rfl fun s S => ?_
      rw [cut_one hlt] at S
      refine Z.nil (hk (i / al.length, [al.getD (i % al.length) 0] ++ str) s ⟨hstep, ?_⟩ (Nat.div_lt_self (by omega) (by omega)) (S.re _ ⟨rfl, rfl, rfl, rfl, trivial⟩))
      exact Nat.le_trans (Nat.div_le_self _ _) h2
    · have hi : a.1 = 0 := by
        have : ((a.1 : Int) != 0) = false := hb
        simpa using this
      have h1 := ha.1
      rw [hi] at h1
      have h2 : a.2 = enc al n := by rw [← h1]; unfold enc; rw [digs_zero]; rfl
      refine Z.ret (bad := bad) (Ev.name (S.cx F rfl) (p := .bytes a.2) rfl rfl) fun v s' k r => hret v s' (S.out.trans k) ?_
      rw [← h2]; exact r
end
end B58

namespace B58

section
variable {prog : Program} {w : World} {A : Around} {D : Dt}

theorem scrub_fn {fa : Addr} {dV kV doc pm cdv ct : Value} {an : Option Addr} {oc : Value} {od : Option Addr} {sl : Array (Option Value)}
    (hroom : A.depth < recursionLimit) (hh : A.handled = none) (ho : (fa, (⟨oc, od, .func (mkF PW 2 dV kV doc pm cdv ct an), sl⟩ : Obj)) ∈ D.objs)
    (hcd : ∀ h, GF h D → h.CodeRec cdv (nameOf PW 2)) (hdV : dV = .none)
    (his : D.names.lookup (Str.ofString "isinstance") = some (.builtin "isinstance")) (hst : D.names.lookup (Str.ofString "str") = some (.type "str"))
    {v : List UInt8} : FnR prog w A D fa [.bytes v] (.bytes v) := by
  subst hdV
  refine FnR.mk (loc := [("v", .bytes v)]) hroom hh ho rfl rfl rfl hcd (fun s vs G hr => ?_) (show ([("v" : Str)]).Nodup by decide) (fun L q hq => ?_) rfl rfl rfl rfl rfl ?_
  · cases hr with
    | cons r1 hr =>
      cases hr
      exact ⟨_, BindsTo.of_eq rfl, .cons r1 rfl .nil⟩
  · simp only [List.mem_cons, List.not_mem_nil, or_false] at hq
    rcases hq with rfl; exact .inl rfl
  · intro bad s₀ s E Φ hL F S hret
    have C := S.cx F rfl
    refine Z.skip S (Tr.val (Ev.isStrB C rfl his rfl rfl hst rfl (Ev.name0 C rfl) rfl) TruR.bool) fun s S => ?_
    exact Z.ret (bad := bad) (Ev.name (S.cx F rfl) (p := .bytes v) rfl rfl) fun v s' k r => hret v s' (S.out.trans k) r

theorem map_fn {fa : Addr} {dV kV doc pm cdv ct : Value} {an : Option Addr} {oc : Value} {od : Option Addr} {sl : Array (Option Value)}
    (hroom : A.depth < recursionLimit) (hh : A.handled = none) (ho : (fa, (⟨oc, od, .func (mkF PW 4 dV kV doc pm cdv ct an), sl⟩ : Obj)) ∈ D.objs)
    (hcd : ∀ h, GF h D → h.CodeRec cdv (nameOf PW 4)) (hdV : dV = .none)
    (hen : D.names.lookup (Str.ofString "enumerate") = some (.type "enumerate"))
    {al : List UInt8} (hnd : al.Nodup) (hz : al.length ≤ 1000) : FnK prog w A D fa [.bytes al] "autofix" (.bool false) (.dict (place al)) := by
  subst hdV
  refine FnK.mk (loc := [("alphabet", .bytes al), ("autofix", .bool false)]) hroom hh ho rfl rfl rfl hcd (fun s vs kv G hr hkv => ?_) (show ([("alphabet" : Str), "autofix"]).Nodup by decide) (fun L q hq => ?_) rfl rfl rfl rfl rfl ?_
  · cases hr with
    | cons r1 hr =>
      cases hr
      exact ⟨_, BindsTo.of_eq rfl, .cons r1 rfl (.cons hkv rfl .nil)⟩
  · simp only [List.mem_cons, List.not_mem_nil, or_false] at hq
    rcases hq with rfl | rfl <;> exact .inl rfl
  · intro bad s₀ s E Φ hL F S hret
    have C := S.cx F rfl
    refine Z.assign F S (EvF.tab C rfl hen rfl (Ev.name0 C rfl) rfl rfl (by decide) rfl (by decide) rfl rfl rfl rfl (by decide) (fun _ => rfl) hnd hz) (.inr ⟨rfl, rfl⟩) rfl fun s S => ?_
    have C := S.cx F rfl
    refine Z.skip S (Tr.val (Ev.name0 C rfl) TruR.bool) fun s S => ?_
    exact Z.ret (bad := bad) (S.name F rfl (p := .dict (place al)) rfl hL) fun v s' k r => hret v s' (S.out.trans k) r

/-- a text's number -/
def dec (al v : List UInt8) : Nat := v.foldl (fun a c => a * al.length + al.idxOf c) 0

theorem idx_bInts {al : List UInt8} {c : UInt8} : (bInts al).idxOf ((c.toNat : Nat) : Int) = al.idxOf c := by
  induction al with
  | nil => rfl
  | cons a r ih =>
    show List.idxOf _ (((a.toNat : Nat) : Int) :: bInts r) = _
    rw [List.idxOf_cons, List.idxOf_cons, ih]
    by_cases h : a = c
    · subst h; simp
    · have h1 : (((a.toNat : Nat) : Int) == ((c.toNat : Nat) : Int)) = false := by
        simp only [beq_eq_false_iff_ne, ne_eq]
        exact fun e => h (UInt8.toNat_inj.mp (by omega))
      have h2 : (a == c) = false := by simpa using h
      rw [h1, h2]
theorem place_of {al : List UInt8} {c : UInt8} (h : c ∈ al) : place al ((c.toNat : Nat) : Int) = some ((al.idxOf c : Nat) : Int) := by
  unfold place
  rw [if_pos (show ((c.toNat : Nat) : Int) ∈ bInts al from List.mem_map.mpr ⟨c, h, rfl⟩), idx_bInts]

theorem dec_lt {al : List UInt8} (hal : 2 ≤ al.length) : ∀ (v : List UInt8), (∀ c ∈ v, c ∈ al) → dec al v < al.length ^ v.length := by
  intro v
  have key : ∀ (v : List UInt8) (a k : Nat), (∀ c ∈ v, c ∈ al) → a < al.length ^ k → v.foldl (fun a c => a * al.length + al.idxOf c) a < al.length ^ (k + v.length) := by
    intro v
    induction v with
    | nil => intro a k _ h; simpa using h
    | cons c r ih =>
      intro a k hv h
      rw [List.foldl_cons]
      have hc : al.idxOf c < al.length := List.idxOf_lt_length_iff.mpr (hv c (List.mem_cons_self ..))
      have := ih (a * al.length + al.idxOf c) (k + 1) (fun x hx => hv x (List.mem_cons_of_mem _ hx)) (by
        rw [Nat.pow_succ]
        calc a * al.length + al.idxOf c < a * al.length + al.length := by omega
          _ = (a + 1) * al.length := by rw [Nat.add_mul, Nat.one_mul]
          _ ≤ al.length ^ k * al.length := Nat.mul_le_mul_right _ h)
      rw [show k + (c :: r).length = k + 1 + r.length by simp; omega]
      exact this
  intro hv
  have := key v 0 0 hv (by simp)
  show v.foldl _ 0 < _
  simpa using this

theorem find_absent {b : List UInt8} {x : UInt8} (h : x ∉ b) : Builtin.Bytes.find? b.toArray [x].toArray 0 b.toArray.size = none := by
  unfold Builtin.Bytes.find?
  rw [List.find?_eq_none]
  intro i hi he
  obtain ⟨j, hj, rfl⟩ := List.mem_map.mp hi
  have hj' : j < b.length := by
    have := List.mem_range.mp hj
    simp at this; omega
  apply h
  have e1 : (b.toArray.extract (j + 0) (j + 0 + [x].toArray.size)).toList = [x] := by
    rw [beq_iff_eq.mp he]
  simp only [Array.toList_extract] at e1
  have : x ∈ [x] := List.mem_singleton.mpr rfl
  rw [← e1] at this
  exact List.mem_of_mem_drop (List.mem_of_mem_take (by simpa [List.extract_eq_take_drop] using this))

theorem dec_fn {fa : Addr} {dV kV doc pm cdv ct : Value} {an : Option Addr} {oc : Value} {od : Option Addr} {sl : Array (Option Value)}
    {fs : Addr} {cdv1 doc1 pm1 ct1 oc1 : Value} {kV1 : Value} {an1 od1 : Option Addr} {sl1 : Array (Option Value)} {fm : Addr} {cdv2 doc2 pm2 ct2 oc2 : Value} {kV2 : Value} {an2 od2 : Option Addr} {sl2 : Array (Option Value)}
    (hroom : A.depth + 1 < recursionLimit) (hh : A.handled = none) (ho : (fa, (⟨oc, od, .func (mkF PW 5 dV kV doc pm cdv ct an), sl⟩ : Obj)) ∈ D.objs)
    (hcd : ∀ h, GF h D → h.CodeRec cdv (nameOf PW 5))
    (hbd : ∀ s x y, GF s.heap D → BindsTo s (mkF PW 5 dV kV doc pm cdv ct an) ⟨[x, y], []⟩ [("v", x), ("alphabet", y), ("autofix", .bool false)])
    (hos : (fs, (⟨oc1, od1, .func (mkF PW 2 .none kV1 doc1 pm1 cdv1 ct1 an1), sl1⟩ : Obj)) ∈ D.objs) (hcds : ∀ h, GF h D → h.CodeRec cdv1 (nameOf PW 2)) (hns : D.names.lookup (nameOf PW 2) = some (.ref fs))
    (hom : (fm, (⟨oc2, od2, .func (mkF PW 4 .none kV2 doc2 pm2 cdv2 ct2 an2), sl2⟩ : Obj)) ∈ D.objs) (hcdm : ∀ h, GF h D → h.CodeRec cdv2 (nameOf PW 4)) (hnm : D.names.lookup (nameOf PW 4) = some (.ref fm))
    (his : D.names.lookup (Str.ofString "isinstance") = some (.builtin "isinstance")) (hst : D.names.lookup (Str.ofString "str") = some (.type "str"))
    (hen : D.names.lookup (Str.ofString "enumerate") = some (.type "enumerate")) (hlen : D.names.lookup (Str.ofString "len") = some (.builtin "len"))
    {v al : List UInt8} (hal : 2 ≤ al.length) (hz : al.length ≤ 1000) (hnd : al.Nodup) (hsp : ∀ c ∈ al, 33 ≤ c.toNat ∧ c.toNat ≤ 126) (hv : ∀ c ∈ v, c ∈ al) (hvl : al.length ^ v.length < 2 ^ 3000) :
    FnR prog w A D fa [.bytes v, .bytes al] (.int (dec al v)) := by
  refine FnR.mk (loc := [("v", .bytes v), ("alphabet", .bytes al), ("autofix", .bool false)]) (by omega) hh ho rfl rfl rfl hcd (fun s vs G hr => ?_) (show ([("v" : Str), "alphabet", "autofix"]).Nodup by decide) (fun L q hq => ?_) rfl rfl rfl rfl rfl ?_
  · cases hr with
    | cons r1 hr => cases hr with
      | cons r2 hr =>
        cases hr
        exact ⟨_, hbd s _ _ G, .cons r1 rfl (.cons r2 rfl (.cons rfl rfl .nil))⟩
  · simp only [List.mem_cons, List.not_mem_nil, or_false] at hq
    rcases hq with rfl | rfl | rfl <;> exact .inl rfl
  · intro bad s₀ s E Φ hL F S hret
    have C := S.cx F rfl
    have hspace : ∀ c ∈ v, Builtin.Bytes.isSpace c = false := fun c hc => by
      have h := hsp c (hv c hc)
      unfold Builtin.Bytes.isSpace
      have h1 : (c == 32) = false := by
        simp only [beq_eq_false_iff_ne, ne_eq]
        intro e; subst e; exact absurd h.1 (by decide)
      have h2 : ¬ c ≤ 13 := fun e => by
        have : c.toNat ≤ 13 := UInt8.le_iff_toNat_le.mp e
        omega
      simp [h1, h2]
    have hnin : (32 : UInt8) ∉ al := fun e => absurd (hsp _ e).1 (by decide)
    refine Z.ite (b := true) S (Tr.cast (Tr.cmp Ev.cBytes (Ev.name0 C rfl) (CmpR.notInB hh)) (by rw [find_absent hnin]; rfl)) (fun _ s S => ?_) (fun e => by cases e)
    have C := S.cx F rfl
    refine Z.assign F S (EvF.of (Ev.rstrip (Ev.name0 C rfl) hspace rfl rfl) rfl) (.inl rfl) rfl fun s S => Z.nil ?_
    have C := S.cx F rfl
    have hs' := scrub_fn (prog := prog) (w := w) (A := A.deeper (callEnvC (mkF PW 5 dV kV doc pm cdv ct an) s₀.heap.objs.size fa)) (v := v) hroom hh hos hcds rfl his hst
    refine Z.assign F S (EvF.callF C rfl hns rfl hos rfl (.cons (Ev.name0 C rfl) rfl .nil) hs') (.inl rfl) rfl fun s S => ?_
    have C := S.cx F rfl
    have hm' := map_fn (prog := prog) (w := w) (A := A.deeper (callEnvC (mkF PW 5 dV kV doc pm cdv ct an) s₀.heap.objs.size fa)) hroom hh hom hcdm rfl hen hnd hz
    refine Z.assign F S (fun s' bad k hb => Ev.callK (C.up k) rfl hnm rfl hom rfl (.cons (Ev.name0 (C.up k) rfl) rfl .nil) (Ev.name0 (C.up k) rfl) hb hm') (.inl rfl) rfl fun s S => ?_
    refine Z.assign F S (EvF.of Ev.cInt rfl) (.inl rfl) rfl fun s S => ?_
    have C := S.cx F rfl
    refine Z.assign F S (EvF.of (Ev.callB C rfl hlen rfl (.cons (Ev.name0 C rfl) rfl .nil) (fun b hb => by cases hb) (CallR.lenB (by omega))) rfl) (.inl rfl) rfl fun s S => ?_
    refine Z.try fun E' => ?_
    have C := S.cx F rfl
    refine Z.for (τ := List UInt8 × List UInt8) F (fun a => [("decimal", .int (dec al a.1)), ("base", .int al.length), ("map", .dict (place al)), ("v", .bytes v)]) (fun i a => a.1 = v.take i) ([], []) (S.re _ ⟨rfl, rfl, rfl, rfl, trivial⟩) rfl
      rfl (fun _ => rfl) (Ev.name0 C rfl) (SrcF.bytes F.hh) (fun i a s kp Φ' E' hi ha S hk => ?_) (fun a s ha S => ?_)
    · obtain ⟨u, rest⟩ := a
      simp only at ha
      subst ha
      have C := S.cx F rfl
      have hi' : i < v.length := by simpa [bInts] using hi
      have hmem : v[i] ∈ al := hv _ (List.getElem_mem hi')
      have hget : (bInts v).getD i 0 = ((v[i].toNat : Nat) : Int) := by
        rw [List.getD_eq_getElem?_getD]; simp [bInts, List.getElem?_eq_getElem hi']
      rw [hget] at C S
      have hlt := dec_lt hal (v.take i) (fun c hc => hv c (List.mem_of_mem_take hc))
      have hle : al.length ^ (v.take i).length ≤ al.length ^ v.length := Nat.pow_le_pow_right (by omega) (by rw [List.length_take]; omega)
      have hsm : Sm ((dec al (v.take i) : Nat) : Int) := by
        unfold Sm
        refine Nat.lt_trans (show ((dec al (v.take i) : Nat) : Int).natAbs < 2 ^ 3000 from by rw [Int.natAbs_natCast]; omega) (Nat.pow_lt_pow_right (by omega) (by omega))
      have hsm2 : Sm ((al.length : Nat) : Int) := by
        unfold Sm
        exact Nat.lt_of_le_of_lt (show ((al.length : Nat) : Int).natAbs ≤ 1000 by omega) (by decide)
      have hstep : dec al (v.take (i + 1)) = dec al (v.take i) * al.length + al.idxOf v[i] := by
        unfold dec
        rw [List.take_succ_eq_append_getElem hi', List.foldl_append]; rfl
      refine Z.assign F S (EvF.of (Ev.bin (Ev.bin (Ev.name0 C rfl) (Ev.name0 C rfl) (fun b hb => by cases hb) (BinR.mul hsm hsm2)) (Ev.item (Ev.name0 C rfl) (Ev.name0 C rfl) (ItemR.dict (place_of hmem)) rfl) (fun b hb => by cases hb) BinR.add) rfl) (.inl rfl) rfl fun s S => Z.nil ?_
      refine hk (v.take (i + 1), []) s rfl (S.re _ ⟨?_, rfl, rfl, rfl, trivial⟩)
      rw [hstep]
      rfl
    · have hl : (bInts v).length = v.length := by simp [bInts]
      rw [hl] at ha
      have e : a.1 = v := by rw [ha, List.take_length]
      rw [e] at S
      refine Z.nil ?_
      exact Z.ret (bad := bad) (Ev.name (S.cx F rfl) (p := .int (dec al v)) rfl rfl) fun v s' k r => hret v s' (S.out.trans k) r
end
end B58

namespace B58

/-- the names that the text's functions read, told from a part of the heap -/
inductive Nms (K : PySem.W.Frag) : List (Str × Value) → Prop
  | nil : Nms K []
  | g {x v r} : PySem.W.nsIn K mainGlobals x = some (some v) → Nms K r → Nms K ((x, v) :: r)
  | b {x v r} : PySem.W.nsIn K mainGlobals x = some none → (x == ("__name__" : Str)) = false → bootBuiltins x = some v → Nms K r → Nms K ((x, v) :: r)

theorem GF.ofK {K : PySem.W.Frag} {h : Heap} {mg mb : Str → Option Value} (X : K.In h) (g : h.Ns mainGlobals mg) (b : h.Ns builtinsNs mb) (nl : h.NoLimit) (hb : ∀ x : Str, x ≠ "__name__" → mb x = bootBuiltins x) {names : List (Str × Value)} {objs : List (Addr × Obj)}
    (hn : Nms K names) (ho : ∀ p ∈ objs, K.lookup p.1 = some p.2) : GF h ⟨names, objs⟩ where
  nolimit := nl
  look := ⟨mg, mb, g, b, fun x v e => by
    induction hn with
    | nil => cases e
    | @g y u r e1 _ ih =>
      rw [List.lookup_cons] at e
      cases hxy : x == y with
      | true => rw [hxy] at e; cases e; rw [beq_iff_eq.mp hxy]; exact .inl (PySem.W.mg_of X g e1)
      | false => rw [hxy] at e; exact ih e
    | @b y u r e1 e2 e3 _ ih =>
      rw [List.lookup_cons] at e
      cases hxy : x == y with
      | true =>
        rw [hxy] at e; cases e; rw [beq_iff_eq.mp hxy]
        exact .inr ⟨PySem.W.ns_none_of X g e1, by rw [hb y (by simpa using e2), e3]⟩
      | false => rw [hxy] at e; exact ih e⟩
  objs := fun p hp => X _ _ (ho p hp)

section
variable {prog : Program} {w : World} {A : Around} {env : Env} {bad : List Addr} {s s' : Shared} {D : Dt} {σ : List (Str × PV)}

/-- n.bit_length() -/
theorem Ev.bitLength {o : Expr} {apos pos : Pos} {x : Int} (ho : Ev prog w A env [] s o (.int x)) (hline : (apos.endLine == pos.line) = true) (hbase : attributeBase o "bit_length" env (eval o env) = eval o env) :
    Ev prog w A env bad s (.Call (.Attribute o "bit_length" apos) [] [] pos) (.int ((Builtin.Int.intBits x : Nat) : Int)) := fun s₁ Q E k₁ hQ =>
  wpAny_Call_method0_late hbase hline (ho s₁ _ _ k₁ fun v s₂ k₂ rv => by
    obtain ⟨t, rfl⟩ := rv
    exact ⟨_, _, F.plainAttrs_int, slot_int_bit_length, type_int_bit_length, typeIs_int _ _ _, (fun a e => nomatch e),
      method0_gives slot_int_bit_length entry_int_bit_length (typeIs_int _ _ _) (args_int_bit_length _) (AutoIntG2.int_bit_length_int_0 _ _) (hQ _ _ (k₂.trans (Kp.toks _ _)) ⟨_, rfl⟩)⟩)

/-- a tuple of ints that the text's top names -/
theorem Ev.gtup (C : Cx prog w A env s D σ) {x : Str} {pos : Pos} {T : Addr} {vs : List Value} {n : Nat} {is : List Int} (hk : env.kindOf x = some .globalImplicit) (hD : D.names.lookup x = some (.ref T)) (hd : (x == ("__debug__" : Str)) = false)
    (hT : (T, ({ cls := .type "tuple", data := .seq vs.toArray n } : Obj)) ∈ D.objs) (hI : IntsAre vs is) : Ev prog w A env bad s (.Name x pos) (.tup is) := fun s₁ Q E k₁ hQ =>
  gname C hk hD hd k₁ (hQ _ _ (Kp.refl _) ⟨T, vs, rfl, ⟨_, (C.gf.up k₁.get).objs _ hT, rfl, _, rfl⟩, hI⟩)

/-- a def's call, from without -/
theorem code_enter {R : Result → Shared → Prop} {fa : Addr} {o : Obj} {fd : FuncData} {body : List Stmt} {loc : List (Str × PV)} {vs : List Value} {binds : List (Str × Value)} (hroom : A.depth < recursionLimit) (hh : A.handled = none) (G : GF s.heap D) (ho : s.heap.get? fa = some o) (hfd : o.data = .func fd) (hbody : fd.body = .stmts body) (hclo : fd.closure = [])
    (hcd : s.heap.CodeRec fd.code fd.qualname) (hb : BindsTo s fd ⟨vs, []⟩ binds) (hB : Bd prog w s.heap binds loc) (hnd : (loc.map (·.1)).Nodup)
    (hown : ∀ q ∈ loc, Own (callEnvC fd s.heap.objs.size fa) q.1)
    (hglob : fd.globals = mainGlobals) (hbi : fd.builtins = builtinsNs)
    (hco : fd.scope.isCoroutine = false) (hgen : fd.scope.isGenerator = false) (hk : fd.scope.kind = .function)
    (H : ∀ (s₀ : Shared) (E : Value → Shared → Prop) (Φ : Flow → Shared → Prop), Fx prog w (A.deeper (callEnvC fd s.heap.objs.size fa)) (callEnvC fd s.heap.objs.size fa) s D →
      St prog w (callEnvC fd s.heap.objs.size fa) s [] loc s₀ → (∀ v s', R (.ok (.ret v)) s' → Φ (.ret v) s') →
      wpAny (model prog w) (A.deeper (callEnvC fd s.heap.objs.size fa)) (execs body (callEnvC fd s.heap.objs.size fa)) Φ E s₀) :
    codeAny (model prog w) A (.call (.ref fa) ⟨vs, []⟩) R s := by
  have hO : ∀ q ∈ binds, Own (callEnvC fd s.heap.objs.size fa) q.1 := fun q hq => by
    have hkeys : binds.map (·.1) = loc.map (·.1) := by
      clear hb hown hnd H hq
      induction hB with
      | nil => rfl
      | cons _ _ _ ih => simp [ih]
    have : q.1 ∈ loc.map (·.1) := hkeys ▸ List.mem_map_of_mem hq
    obtain ⟨q', hq', e⟩ := List.mem_map.mp this
    rw [← e]; exact hown q' hq'
  refine codeAny_call_function hroom ho hfd hco hgen hbody hcd (hb _ _ _ _ ?_)
  rw [hclo]
  refine wpAny_newFunctionEnv_cells hk (fun x hx => ?_) fun env he s' x => ?_
  · rcases hO x hx with h | ⟨h, h'⟩
    · exact .inl h
    · exact .inr ⟨h, h'⟩
  · subst he
    refine ⟨G.nolimit.keeps x.toInCall.keep, codeAny_func ?_⟩
    refine H s' _ _ ⟨hh, hk, hglob, hbi, G⟩ ⟨_, _, x, fun y p e => ?_, fun y z p q a hyz e e' hp => ?_, fun q hq => by cases hq⟩ fun v s₂ h => h
    · obtain ⟨v, h1, h2, h3⟩ := hB.look hnd e
      refine ⟨v, ?_, h2.up x.toInCall.keep, fun hp => by rw [h3] at hp; cases hp⟩
      have := bind_vl (env := callEnvC fd s.heap.objs.size fa) binds (fun _ => none) (fun _ => none) hO y
      rw [h1] at this
      exact this
    · obtain ⟨v, h1, h2, h3⟩ := hB.look hnd e
      rw [h3] at hp; cases hp
end
end B58

namespace B58

-- two signs
/-- the worth of a row of digits -/
def val (b : Nat) (l : List Nat) : Nat := l.foldl (fun a d => a * b + d) 0
theorem val_snoc (b : Nat) (l : List Nat) (d : Nat) : val b (l ++ [d]) = val b l * b + d := by unfold val; rw [List.foldl_append]; rfl
theorem val_acc (b : Nat) : ∀ (l : List Nat) (a : Nat), l.foldl (fun a d => a * b + d) a = a * b ^ l.length + val b l := by
  intro l
  induction l with
  | nil => intro a; simp [val]
  | cons d r ih =>
    intro a
    unfold val
    rw [List.foldl_cons, List.foldl_cons, ih, ih (0 * b + d)]
    simp only [List.length_cons, Nat.pow_succ, Nat.add_mul, Nat.zero_mul, Nat.zero_add]
    rw [Nat.mul_assoc, Nat.mul_comm b, Nat.add_assoc]
theorem val_cons (b d : Nat) (l : List Nat) : val b (d :: l) = d * b ^ l.length + val b l := by
  show List.foldl _ _ _ = _
  rw [List.foldl_cons, val_acc]; simp
theorem val_append (b : Nat) (l r : List Nat) : val b (l ++ r) = val b l * b ^ r.length + val b r := by
  unfold val
  rw [List.foldl_append, val_acc]; rfl
theorem val_digs {b : Nat} (hb : 2 ≤ b) : ∀ n, val b (digs b n) = n := by
  intro n
  induction n using Nat.strongRecOn with
  | _ n ih =>
    by_cases hn : n = 0
    · subst hn; rw [digs_zero]; rfl
    · rw [digs_pos hb hn, val_snoc, ih (n / b) (Nat.div_lt_self (by omega) (by omega))]
      rw [Nat.mul_comm]; exact Nat.div_add_mod n b
theorem val_lt {b : Nat} (hb : 2 ≤ b) : ∀ l : List Nat, (∀ d ∈ l, d < b) → val b l < b ^ l.length := by
  intro l
  induction l with
  | nil => intro _; simp [val]
  | cons d r ih =>
    intro h
    rw [val_cons, List.length_cons, Nat.pow_succ]
    have h1 := ih fun x hx => h x (List.mem_cons_of_mem _ hx)
    have h2 : d < b := h d (List.mem_cons_self ..)
    calc d * b ^ r.length + val b r < d * b ^ r.length + b ^ r.length := by omega
      _ = (d + 1) * b ^ r.length := by rw [Nat.add_mul, Nat.one_mul]
      _ ≤ b * b ^ r.length := Nat.mul_le_mul_right _ h2
      _ = b ^ r.length * b := Nat.mul_comm _ _

/-- a row of digits as a text -/
def txt (al : List UInt8) (l : List Nat) : List UInt8 := l.map fun d => al.getD d 0
theorem enc_txt (al : List UInt8) (n : Nat) : enc al n = txt al (digs al.length n) := rfl
theorem idx_getD {al : List UInt8} (hnd : al.Nodup) {d : Nat} (h : d < al.length) : al.idxOf (al.getD d 0) = d := by
  rw [List.getD_eq_getElem?_getD, List.getElem?_eq_getElem h]
  exact List.Nodup.idxOf_getElem hnd d h
theorem dec_txt {al : List UInt8} (hnd : al.Nodup) {l : List Nat} (h : ∀ d ∈ l, d < al.length) : dec al (txt al l) = val al.length l := by
  unfold dec txt val
  rw [List.foldl_map]
  have : ∀ (l : List Nat) (a : Nat), (∀ d ∈ l, d < al.length) → l.foldl (fun a d => a * al.length + al.idxOf (al.getD d 0)) a = l.foldl (fun a d => a * al.length + d) a := by
    intro l
    induction l with
    | nil => intro a _; rfl
    | cons d r ih =>
      intro a h
      rw [List.foldl_cons, List.foldl_cons, idx_getD hnd (h d (List.mem_cons_self ..))]
      exact ih _ fun x hx => h x (List.mem_cons_of_mem _ hx)
  exact this l 0 h
theorem txt_mem {al : List UInt8} {l : List Nat} (h : ∀ d ∈ l, d < al.length) : ∀ c ∈ txt al l, c ∈ al := by
  intro c hc
  obtain ⟨d, hd, rfl⟩ := List.mem_map.mp hc
  rw [List.getD_eq_getElem?_getD, List.getElem?_eq_getElem (h d hd)]
  exact List.getElem_mem _
theorem enc_mem {al : List UInt8} (hal : 2 ≤ al.length) (n : Nat) : ∀ c ∈ enc al n, c ∈ al := txt_mem (digs_lt hal n)
theorem dec_enc {al : List UInt8} (hal : 2 ≤ al.length) (hnd : al.Nodup) (n : Nat) : dec al (enc al n) = n := by
  rw [enc_txt, dec_txt hnd (digs_lt hal n), val_digs hal]

-- the ring
/-- the number of a number's binary places -/
def blen (n : Nat) : Nat := (digs 2 n).length
theorem blen_zero : blen 0 = 0 := by unfold blen; rw [digs_zero]; rfl
theorem blen_pos {n : Nat} (h : n ≠ 0) : blen n = blen (n / 2) + 1 := by unfold blen; rw [digs_pos (by omega) h, List.length_append]; rfl
theorem blen_hi (n : Nat) : n < 2 ^ blen n := by
  have := val_lt (b := 2) (by omega) (digs 2 n) (digs_lt (by omega) n)
  rwa [val_digs (by omega)] at this
theorem blen_lo : ∀ n, n ≠ 0 → 2 ^ blen n ≤ 2 * n := by
  intro n
  induction n using Nat.strongRecOn with
  | _ n ih =>
    intro h
    rw [blen_pos h, Nat.pow_succ]
    by_cases h2 : n / 2 = 0
    · rw [h2, blen_zero]; omega
    · have := ih (n / 2) (by omega) h2
      omega
/-- who is left of a ring of n -/
def turn (n : Nat) : Nat := 2 * n + 1 - 2 ^ blen n
theorem turn_spec {n : Nat} (h : n ≠ 0) : turn n + 2 ^ blen n = 2 * n + 1 := by have := blen_lo n h; unfold turn; omega
theorem turn_le {n : Nat} : turn n ≤ n := by have := blen_hi n; unfold turn; omega
theorem turn_pos {n : Nat} (h : n ≠ 0) : turn n ≠ 0 := by have := blen_lo n h; unfold turn; omega
theorem turn_even {n : Nat} (h : n ≠ 0) : turn (2 * n) + 1 = 2 * turn n := by
  have h1 := turn_spec h
  have h2 := turn_spec (n := 2 * n) (by omega)
  rw [blen_pos (by omega), show 2 * n / 2 = n by omega, Nat.pow_succ] at h2
  omega
theorem turn_odd {n : Nat} (h : n ≠ 0) : turn (2 * n + 1) = 2 * turn n + 1 := by
  have h1 := turn_spec h
  have h2 := turn_spec (n := 2 * n + 1) (by omega)
  rw [blen_pos (by omega), show (2 * n + 1) / 2 = n by omega, Nat.pow_succ] at h2
  omega

/-- the head of a number's row is 1 -/
theorem digs_head {n : Nat} (h : n ≠ 0) : ∃ r, digs 2 n = 1 :: r ∧ r.length + 1 = blen n := by
  induction n using Nat.strongRecOn with
  | _ n ih =>
    by_cases h2 : n / 2 = 0
    · have : n = 1 := by omega
      subst this
      refine ⟨[], ?_, ?_⟩
      · rw [digs_pos (by omega) (by omega)]; rw [show 1 / 2 = 0 by rfl, digs_zero]; rfl
      · unfold blen; rw [digs_pos (by omega) (by omega)]; rw [show 1 / 2 = 0 by rfl, digs_zero]; rfl
    · obtain ⟨r, e, hl⟩ := ih (n / 2) (by omega) h2
      refine ⟨r ++ [n % 2], ?_, ?_⟩
      · rw [digs_pos (by omega) h, e]; rfl
      · rw [blen_pos h, ← hl]; simp
/-- the turned text tells who is left -/
theorem dec_turn {al : List UInt8} (hal : al.length = 2) (hnd : al.Nodup) {n : Nat} (h : n ≠ 0) : dec al ((enc al n).drop 1 ++ (enc al n).take 1) = turn n := by
  obtain ⟨r, e, hl⟩ := digs_head h
  have hlt : ∀ d ∈ (1 :: r), d < al.length := by rw [← e, hal]; exact digs_lt (by omega) n
  rw [enc_txt, hal, e]
  have : (txt al (1 :: r)).drop 1 ++ (txt al (1 :: r)).take 1 = txt al (r ++ [1]) := by simp [txt]
  rw [this, dec_txt hnd (by
    intro d hd
    rcases List.mem_append.mp hd with hd | hd
    · exact hlt d (List.mem_cons_of_mem _ hd)
    · rw [List.mem_singleton.mp hd]; omega), hal, val_snoc]
  have hv := val_digs (b := 2) (by omega) n
  rw [e, val_cons] at hv
  have hs := turn_spec h
  rw [← hl, Nat.pow_succ] at hs
  omega

/-- the second signs of a number's text -/
def pc (n : Nat) : Nat := (digs 2 n).sum
theorem pc_zero : pc 0 = 0 := by unfold pc; rw [digs_zero]; rfl
theorem pc_pos {n : Nat} (h : n ≠ 0) : pc n = pc (n / 2) + n % 2 := by unfold pc; rw [digs_pos (by omega) h]; simp
theorem pc_step (n : Nat) : pc n = pc (n / 2) + n % 2 := by
  by_cases h : n = 0
  · subst h; rw [pc_zero]
  · exact pc_pos h
theorem pc_add : ∀ k r, r < 2 ^ k → pc (2 ^ k + r) = pc r + 1 := by
  intro k
  induction k with
  | zero =>
    intro r h
    have : r = 0 := by simpa using h
    subst this
    rw [pc_step]
  | succ k ih =>
    intro r h
    rw [Nat.pow_succ] at h
    rw [pc_step, pc_step r, show (2 ^ (k + 1) + r) / 2 = 2 ^ k + r / 2 by rw [Nat.pow_succ]; omega, show (2 ^ (k + 1) + r) % 2 = r % 2 by rw [Nat.pow_succ]; omega, ih (r / 2) (by omega)]
    omega
theorem pc_turn {n : Nat} (h : n ≠ 0) : pc (turn n) = pc n := by
  have h1 := turn_spec h
  have h2 := blen_lo n h
  have h3 := blen_hi n
  have hb : blen n ≠ 0 := by rw [blen_pos h]; omega
  obtain ⟨k, hk⟩ := Nat.exists_eq_succ_of_ne_zero hb
  rw [hk, Nat.succ_eq_add_one, Nat.pow_succ] at h1 h2 h3
  have hr : n = 2 ^ k + (n - 2 ^ k) := by omega
  have ht : turn n = 2 * (n - 2 ^ k) + 1 := by omega
  rw [ht, pc_step, show (2 * (n - 2 ^ k) + 1) / 2 = n - 2 ^ k by omega, show (2 * (n - 2 ^ k) + 1) % 2 = 1 by omega]
  conv => rhs; rw [hr]
  rw [pc_add k _ (by omega)]
theorem pc_full : ∀ k, pc (2 ^ k - 1) = k := by
  intro k
  induction k with
  | zero => exact pc_zero
  | succ k ih =>
    have := Nat.two_pow_pos k
    rw [pc_step, show (2 ^ (k + 1) - 1) / 2 = 2 ^ k - 1 by rw [Nat.pow_succ]; omega, show (2 ^ (k + 1) - 1) % 2 = 1 by rw [Nat.pow_succ]; omega, ih]
theorem digs_full : ∀ k, digs 2 (2 ^ k - 1) = List.replicate k 1 := by
  intro k
  induction k with
  | zero => exact digs_zero 2
  | succ k ih =>
    have := Nat.two_pow_pos k
    rw [digs_pos (by omega) (by rw [Nat.pow_succ]; omega), show (2 ^ (k + 1) - 1) / 2 = 2 ^ k - 1 by rw [Nat.pow_succ]; omega, show (2 ^ (k + 1) - 1) % 2 = 1 by rw [Nat.pow_succ]; omega, ih, List.replicate_succ']
/-- a ring whose last one is left -/
theorem turn_fix {n : Nat} (h : n ≠ 0) (e : turn n = n) : n = 2 ^ pc n - 1 := by
  have h1 := turn_spec h
  have h2 : n = 2 ^ blen n - 1 := by omega
  have : pc n = blen n := by rw [h2]; rw [pc_full]; rw [← h2]
  rw [this]; exact h2
/-- the second signs, told in the text -/
theorem count_enc {al : List UInt8} (hal : al.length = 2) (hnd : al.Nodup) (n : Nat) {g : Int → Int} : ((((bInts (enc al n)).filter fun c => c == ((al.getD 1 0).toNat : Int)).map g).length) = pc n := by
  rw [List.length_map, enc_txt, hal]
  unfold bInts txt pc
  have key : ∀ l : List Nat, (∀ d ∈ l, d < 2) → ((List.map (fun c : UInt8 => ((c.toNat : Nat) : Int)) (l.map fun d => al.getD d 0)).filter fun c => c == ((al.getD 1 0).toNat : Int)).length = l.sum := by
    intro l
    induction l with
    | nil => intro _; rfl
    | cons d r ih =>
      intro h
      have hr := ih fun x hx => h x (List.mem_cons_of_mem _ hx)
      have hd : d < 2 := h d (List.mem_cons_self ..)
      simp only [List.map_cons, List.filter_cons, List.sum_cons]
      have hd' : d = 0 ∨ d = 1 := by omega
      rcases hd' with rfl | rfl
      · have : (((al.getD 0 0).toNat : Int) == ((al.getD 1 0).toNat : Int)) = false := by
          simp only [beq_eq_false_iff_ne, ne_eq]
          intro e
          have e' : al.getD 0 0 = al.getD 1 0 := UInt8.toNat_inj.mp (by omega)
          have h0 := idx_getD hnd (d := 0) (by omega)
          have h1 := idx_getD hnd (d := 1) (by omega)
          rw [e', h1] at h0; cases h0
        rw [this]; simp only [Bool.false_eq_true, if_false]; omega
      · simp only [beq_self_eq_true, if_true, List.length_cons]; omega
  exact key _ (digs_lt (by omega) n)
end B58

namespace B58

section
variable {prog : Program} {w : World} {A : Around} {env : Env} {bad : List Addr} {s s' s₀ : Shared} {D : Dt} {σ loc : List (Str × PV)} {kp : List (Addr × Obj)} {Φ : Flow → Shared → Prop} {E : Value → Shared → Prop} {rest : List Stmt}
/-- a written tuple of three, into three names, in either order -/
theorem Z.tup3 (F : Fx prog w A env s₀ D) (S : St prog w env s₀ kp loc s) {x y z : Str} {px py pz tpos epos pos : Pos} {k k2 : Nat} {e f g : Expr} {p q r : PV} (he : EvTs prog w A env s [e, f, g] [p, q, r]) (hx : Own env x) (hy : Own env y) (hz : Own env z)
    (hs : swapsWithSole [.Tuple [.Name x px, .Name y py, .Name z pz] k tpos] (.Tuple [e, f, g] k2 epos) pos.line env = pure false)
    (hw : swappedStores [.Tuple [.Name x px, .Name y py, .Name z pz] k tpos] (.Tuple [e, f, g] k2 epos) env = pure none ∨ swappedStores [.Tuple [.Name x px, .Name y py, .Name z pz] k tpos] (.Tuple [e, f, g] k2 epos) env = pure (some [x, y, z]))
    (hxy : (y == x) = false) (hxz : (z == x) = false) (hyz : (z == y) = false)
    (hk : ∀ s', St prog w env s₀ kp ((x, p) :: (y, q) :: (z, r) :: loc) s' → wpAny (model prog w) A (execs rest env) Φ E s') : wpAny (model prog w) A (execs (.Assign [.Tuple [.Name x px, .Name y py, .Name z pz] k tpos] (.Tuple [e, f, g] k2 epos) pos :: rest) env) Φ E s := by
  obtain ⟨m, cm, S⟩ := S
  have ev : ∀ (Q : Value → Shared → Prop) (E : Value → Shared → Prop), (∀ v u t s₂ T, Kp s s₂ → IsTup s₂.heap T [v, u, t].toArray → Rep prog w (Busy env s₀ kp (adrs env m cm loc)) s₂.heap v p → Rep prog w (Busy env s₀ kp (adrs env m cm loc)) s₂.heap u q → Rep prog w (Busy env s₀ kp (adrs env m cm loc)) s₂.heap t r → Apart (v, p) (u, q) → Apart (v, p) (t, r) → Apart (u, q) (t, r) → Q (.ref T) s₂) →
      wpAny (model prog w) A (eval (.Tuple [e, f, g] k2 epos) env) Q E s := fun Q E hQ => by
    refine wpAny_Tuple (he.sound (Busy env s₀ kp (adrs env m cm loc)) s _ _ (Hx.refl _) S.busy fun l s₂ k₂ hl hr hw => ?_)
    match l, hl with
    | [(v, p'), (u, q'), (t, r')], hl =>
      simp only [List.map_cons, List.map_nil, List.cons.injEq, and_true] at hl
      obtain ⟨rfl, rfl, rfl⟩ := hl
      have hw1 := List.pairwise_cons.mp hw
      have hw2 := List.pairwise_cons.mp hw1.2
      have up := (Kp.push s₂ ({ cls := .type "tuple", data := .seq [v, u, t].toArray } : Obj) s₂.toks).get
      exact ⟨by rw [sizeLine_eq]; simp, hQ v u t _ _ (k₂.trans (Kp.push _ _ _)) ⟨_, Heap.get?_push_size _ rfl, rfl, _, rfl⟩ ((hr (v, p') (by simp)).up up) ((hr (u, q') (by simp)).up up) ((hr (t, r') (by simp)).up up)
        (hw1.1 (u, q') (by simp)) (hw1.1 (t, r') (by simp)) (hw2.1 (t, r') (by simp))⟩
  have names : ∀ {c : Str × PV → Prop}, c (x, p) → c (y, q) → c (z, r) → True := fun _ _ _ => trivial
  rcases hw with hw | hw
  · refine Z.seq (Assign_Tuple (ev _ _ fun v u t s₂ T k₂ hT hv hu ht a1 a2 a3 => ?_) hs hw)
    show wpAny _ _ (do standAt tpos; unpack (Value.ref T) [(false, PySem.assign (Expr.Name x px) env), (false, PySem.assign (Expr.Name y py) env), (false, PySem.assign (Expr.Name z pz) env)]) _ _ _
    refine wpAny_bind (wpAny_standAt ?_)
    unfold unpack
    refine wpAny_bind (wpAny_holding (unpack_tup (v := .none) F.hh hT rfl fun s₃ k₃ => ?_))
    have S₃ := S.kept (k₂.trans k₃)
    refine storeAll F.kind [(PySem.assign (Expr.Name x px) env, x, v, p), (PySem.assign (Expr.Name y py) env, y, u, q), (PySem.assign (Expr.Name z pz) env, z, t, r)] m cm loc s₃ _ _ S₃ ?_ ?_ ?_ ?_ fun s' S' => hk s' (S'.reL ?_)
    · intro o ho
      simp only [List.mem_cons, List.not_mem_nil, or_false] at ho
      rcases ho with rfl | rfl | rfl
      · exact hx
      · exact hy
      · exact hz
    · intro o ho
      simp only [List.mem_cons, List.not_mem_nil, or_false] at ho
      rcases ho with rfl | rfl | rfl <;> (intro Q E s h; exact wpAny_assign_Name h)
    · intro o ho
      simp only [List.mem_cons, List.not_mem_nil, or_false] at ho
      rcases ho with rfl | rfl | rfl
      · exact hv.up k₃.get
      · exact hu.up k₃.get
      · exact ht.up k₃.get
    · refine .cons (fun o ho => ?_) (.cons (fun o ho => ?_) (.cons (fun o ho => by cases ho) .nil))
      · simp only [List.map_cons, List.map_nil, List.mem_cons, List.not_mem_nil, or_false] at ho
        rcases ho with rfl | rfl
        · exact a1
        · exact a2
      · simp only [List.map_cons, List.map_nil, List.mem_cons, List.not_mem_nil, or_false] at ho
        rw [ho]; exact a3
    · intro o c e
      simp only [List.map_cons, List.map_nil, List.reverse_cons, List.reverse_nil, List.nil_append, List.cons_append, List.lookup_cons] at e ⊢
      cases h1 : o == x with
      | true =>
        have := beq_iff_eq.mp h1
        subst this
        have h2 : (o == y) = false := by
          cases h : o == y with
          | false => rfl
          | true => rw [beq_iff_eq.mp h] at hxy; simp at hxy
        have h3 : (o == z) = false := by
          cases h : o == z with
          | false => rfl
          | true => rw [beq_iff_eq.mp h] at hxz; simp at hxz
        rw [h1] at e; rw [h2, h3]; exact e
      | false =>
        simp only [h1] at e ⊢
        cases h2 : o == y with
        | true =>
          have := beq_iff_eq.mp h2
          subst this
          have h3 : (o == z) = false := by
            cases h : o == z with
            | false => rfl
            | true => rw [beq_iff_eq.mp h] at hyz; simp at hyz
          rw [h2] at e; rw [h3]; exact e
        | false => simp only [h2] at e ⊢; exact e
  · refine Z.seq (Assign_Tuple_swapped (ev _ _ fun v u t s₂ T k₂ hT hv hu ht a1 a2 a3 => ?_) hs hw)
    refine unpack_tup (v := .none) F.hh hT rfl fun s₃ k₃ => ?_
    have S₃ := S.kept (k₂.trans k₃)
    refine storeAll F.kind [((fun v => bindName env z v), z, t, r), ((fun v => bindName env y v), y, u, q), ((fun v => bindName env x v), x, v, p)] m cm loc s₃ _ _ S₃ ?_ ?_ ?_ ?_ fun s' S' => hk s' S'
    · intro o ho
      simp only [List.mem_cons, List.not_mem_nil, or_false] at ho
      rcases ho with rfl | rfl | rfl
      · exact hz
      · exact hy
      · exact hx
    · intro o ho
      simp only [List.mem_cons, List.not_mem_nil, or_false] at ho
      rcases ho with rfl | rfl | rfl <;> (intro Q E s h; exact wpAny_bindName h)
    · intro o ho
      simp only [List.mem_cons, List.not_mem_nil, or_false] at ho
      rcases ho with rfl | rfl | rfl
      · exact ht.up k₃.get
      · exact hu.up k₃.get
      · exact hv.up k₃.get
    · refine .cons (fun o ho => ?_) (.cons (fun o ho => ?_) (.cons (fun o ho => by cases ho) .nil))
      · simp only [List.map_cons, List.map_nil, List.mem_cons, List.not_mem_nil, or_false] at ho
        rcases ho with rfl | rfl
        · exact a3.symm
        · exact a2.symm
      · simp only [List.map_cons, List.map_nil, List.mem_cons, List.not_mem_nil, or_false] at ho
        rw [ho]; exact a1.symm
end
end B58

namespace B58

/-- what a law draws at a place -/
def drw (is rest : List Int) (k : Int) : Int := (if k < is.length then is.getD k.toNat 0 else rest.getD k.toNat 0).fmod 10007
theorem drw_lo (is rest : List Int) (k : Int) : 0 ≤ drw is rest k := by unfold drw; exact Int.fmod_nonneg_of_pos _ (by omega)
theorem drw_hi (is rest : List Int) (k : Int) : drw is rest k < 10007 := by unfold drw; exact Int.fmod_lt_of_pos _ (by omega)

section
variable {prog : Program} {w : World} {A : Around} {env : Env} {bad : List Addr} {s s' : Shared} {D : Dt} {σ : List (Str × PV)}

theorem Ev.draw (C : Cx prog w A env s D σ) {is rest : List Int} {vs : List Value} {nT T : Nat} {k : Int} {p1 p2 p3 p4 p5 p6 p7 p8 p9 p10 p11 p12 p13 p14 : Pos} {kc : Nat} (hk : σ.lookup (Str.ofString "k") = some (.int k)) (hs : σ.lookup (Str.ofString "script") = some (.ilist is))
    (hkl : env.kindOf (Str.ofString "len") = some .globalImplicit) (hkr : env.kindOf (Str.ofString "_law_rest") = some .globalImplicit)
    (hlen : D.names.lookup (Str.ofString "len") = some (.builtin "len")) (hrest : D.names.lookup (Str.ofString "_law_rest") = some (.ref T)) (hT : (T, ({ cls := .type "tuple", data := .seq vs.toArray nT } : Obj)) ∈ D.objs) (hI : IntsAre vs rest)
    (h0 : 0 ≤ k) (h1 : k < rest.length) (hz : is.length ≤ 63) (hz' : rest.length ≤ 1000) :
    Ev prog w A env bad s (.BinOp (.IfExp (.Compare (.Name (Str.ofString "k") p1) [.Lt] [.Call (.Name (Str.ofString "len") p2) [.Name (Str.ofString "script") p3] [] p4] p5) (.Subscript (.Name (Str.ofString "script") p6) (.Name (Str.ofString "k") p7) p8)
      (.Subscript (.Name (Str.ofString "_law_rest") p9) (.Name (Str.ofString "k") p10) p11) p12) .Mod (.Constant (.int 10007) kc p13) p14) (.int (drw is rest k)) := by
  refine Ev.flat (bad := []) (Ev.bin (p := .int (if k < is.length then is.getD k.toNat 0 else rest.getD k.toNat 0)) (Ev.ite (b := decide (k < is.length)) (Tr.cmp (Ev.name0 C hk) (Ev.callB C hkl hlen rfl (.cons (Ev.name0 C hs) rfl .nil) (fun b hb => by cases hb) (CallR.lenI (by omega))) CmpR.lt) (fun hb => ?_) (fun hb => ?_)) Ev.cInt (fun b hb => by cases hb) (BinR.mod (by decide))) rfl
  · have hb : k < is.length := of_decide_eq_true hb
    rw [if_pos hb]
    have hlt : k.toNat < is.length := by omega
    exact Ev.item (Ev.name0 C hs) (Ev.name0 C hk) (ItemR.ilist h0 (by omega) (by rw [List.getD_eq_getElem?_getD, List.getElem?_eq_getElem hlt]; rfl)) rfl
  · have hb : ¬ k < is.length := of_decide_eq_false hb
    rw [if_neg hb]
    have hlt : k.toNat < rest.length := by omega
    exact Ev.item (Ev.gtup C hkr hrest rfl hT hI) (Ev.name0 C hk) (ItemR.tup h0 (by omega) (by rw [List.getD_eq_getElem?_getD, List.getElem?_eq_getElem hlt]; rfl)) rfl

/-- what the laws call -/
structure Fns (prog : Program) (w : World) (A : Around) (D : Dt) : Prop where
  enc : ∃ fa o fd, D.names.lookup (nameOf PW 3) = some (.ref fa) ∧ (fa, o) ∈ D.objs ∧ o.data = .func fd ∧ ∀ (n : Nat) (d : Bool) (al : List UInt8), 2 ≤ al.length → al.length ≤ 1000 → n < 2 ^ 4000 → (n ≠ 0 ∨ d = false) → FnR prog w A D fa [.int n, .bool d, .bytes al] (.bytes (enc al n))
  dec : ∃ fa o fd, D.names.lookup (nameOf PW 5) = some (.ref fa) ∧ (fa, o) ∈ D.objs ∧ o.data = .func fd ∧ ∀ (v al : List UInt8), 2 ≤ al.length → al.length ≤ 1000 → al.Nodup → (∀ c ∈ al, 33 ≤ c.toNat ∧ c.toNat ≤ 126) → (∀ c ∈ v, c ∈ al) → al.length ^ v.length < 2 ^ 3000 → FnR prog w A D fa [.bytes v, .bytes al] (.int (dec al v))
  len : D.names.lookup (Str.ofString "len") = some (.builtin "len")
  range : D.names.lookup (Str.ofString "range") = some (.type "range")
  bytes : D.names.lookup (Str.ofString "bytes") = some (.type "bytes")

theorem EvF.encode (N : Fns prog w A D) (C : Cx prog w A env s D σ) {e1 e2 e3 : Expr} {np pos : Pos} {n : Nat} {d : Bool} {al : List UInt8} (hk : env.kindOf (nameOf PW 3) = some .globalImplicit) (h1 : Ev prog w A env [] s e1 (.int n)) (h2 : Ev prog w A env [] s e2 (.bool d)) (h3 : Ev prog w A env [] s e3 (.bytes al))
    (hs1 : starEach [e1, e2, e3] env = (false, eval e1 env) :: starEach [e2, e3] env) (hs2 : starEach [e2, e3] env = (false, eval e2 env) :: starEach [e3] env) (hs3 : starEach [e3] env = (false, eval e3 env) :: starEach [] env)
    (hal : 2 ≤ al.length) (hal' : al.length ≤ 1000) (hn : n < 2 ^ 4000) (hd : n ≠ 0 ∨ d = false) : EvF prog w A env s (.Call (.Name (nameOf PW 3) np) [e1, e2, e3] [] pos) (.bytes (B58.enc al n)) := by
  obtain ⟨fa, o, fd, hD, ho, hfd, H⟩ := N.enc
  exact EvF.callF C hk hD (by decide) ho hfd (.cons h1 hs1 (.cons h2 hs2 (.cons h3 hs3 .nil))) (H n d al hal hal' hn hd)
theorem EvF.decode (N : Fns prog w A D) (C : Cx prog w A env s D σ) {e1 e2 : Expr} {np pos : Pos} {v al : List UInt8} (hk : env.kindOf (nameOf PW 5) = some .globalImplicit) (h1 : Ev prog w A env [] s e1 (.bytes v)) (h2 : Ev prog w A env [] s e2 (.bytes al))
    (hs1 : starEach [e1, e2] env = (false, eval e1 env) :: starEach [e2] env) (hs2 : starEach [e2] env = (false, eval e2 env) :: starEach [] env)
    (hal : 2 ≤ al.length) (hal' : al.length ≤ 1000) (hnd : al.Nodup) (hsp : ∀ c ∈ al, 33 ≤ c.toNat ∧ c.toNat ≤ 126) (hv : ∀ c ∈ v, c ∈ al) (hvl : al.length ^ v.length < 2 ^ 3000) : EvF prog w A env s (.Call (.Name (nameOf PW 5) np) [e1, e2] [] pos) (.int (B58.dec al v)) := by
  obtain ⟨fa, o, fd, hD, ho, hfd, H⟩ := N.dec
  exact EvF.callF C hk hD (by decide) ho hfd (.cons h1 hs1 (.cons h2 hs2 .nil)) (H v al hal hal' hnd hsp hv hvl)

theorem rng_one (n : Nat) : rng 0 1 n = (List.range n).map fun (i : Nat) => (i : Int) := by
  unfold rng
  exact List.map_congr_left fun i _ => by omega
end
end B58

namespace B58

-- many signs, drawn
/-- the place of the k-th sign -/
def sgn (d k : Int) : Int := 33 + (d + (1 + d.fmod 23 * 2) * k).fmod 94
theorem sgn_in (d k : Int) : 33 ≤ sgn d k ∧ sgn d k ≤ 126 := by
  unfold sgn
  have h1 := Int.fmod_nonneg_of_pos (d + (1 + d.fmod 23 * 2) * k) (b := 94) (by omega)
  have h2 := Int.fmod_lt_of_pos (d + (1 + d.fmod 23 * 2) * k) (b := 94) (by omega)
  omega
theorem step_ok : ∀ s < 23, ∀ k < 60, ((1 + 2 * s) * (k + 1)) % 94 ≠ 0 := by decide +kernel
theorem sgn_inj {d : Int} {i j : Nat} (hij : i < j) (hj : j < 60) : sgn d i ≠ sgn d j := by
  intro e
  unfold sgn at e
  have hs1 := Int.fmod_nonneg_of_pos d (b := 23) (by omega)
  have hs2 := Int.fmod_lt_of_pos d (b := 23) (by omega)
  obtain ⟨s, hs⟩ : ∃ s : Nat, d.fmod 23 = s := ⟨_, (Int.toNat_of_nonneg hs1).symm⟩
  rw [hs] at e hs2
  rw [Int.fmod_eq_emod_of_nonneg _ (by omega), Int.fmod_eq_emod_of_nonneg _ (by omega)] at e
  have hm : (d + (1 + (s : Int) * 2) * j) % 94 = (d + (1 + (s : Int) * 2) * i) % 94 := by omega
  obtain ⟨k, hk⟩ : ∃ k : Nat, j = i + (k + 1) := ⟨j - i - 1, by omega⟩
  have h0 := step_ok s (by omega) k (by omega)
  have hsub := Int.emod_emod_of_dvd
  have hz : ((1 + (s : Int) * 2) * ((k : Int) + 1)) % 94 = 0 := by
    have e2 : (1 + (s : Int) * 2) * (j : Int) = (1 + (s : Int) * 2) * (i : Int) + (1 + (s : Int) * 2) * ((k : Int) + 1) := by
      rw [hk, ← Int.mul_add]; rfl
    rw [e2] at hm
    generalize (1 + (s : Int) * 2) * (i : Int) = x at hm
    generalize (1 + (s : Int) * 2) * ((k : Int) + 1) = y at hm ⊢
    omega
  apply h0
  have : (((1 + 2 * s) * (k + 1) : Nat) : Int) = (1 + (s : Int) * 2) * ((k : Int) + 1) := by
    rw [Int.natCast_mul]
    have : ((1 + 2 * s : Nat) : Int) = 1 + (s : Int) * 2 := by omega
    rw [this]; rfl
  omega

/-- the alphabet of so many signs -/
def alS (d : Int) (n : Nat) : List UInt8 := ((rng 0 1 n).map (sgn d)).map fun n => n.toNat.toUInt8
theorem alS_len (d : Int) (n : Nat) : (alS d n).length = n := by simp [alS, rng]
theorem u8_of {n : Int} (h : 33 ≤ n ∧ n ≤ 126) : (n.toNat.toUInt8).toNat = n.toNat := by
  show n.toNat % 2 ^ 8 = _
  omega
theorem alS_get {d : Int} {n k : Nat} (h : k < n) : (alS d n)[k]'(by rw [alS_len]; exact h) = (sgn d k).toNat.toUInt8 := by
  simp [alS, rng]
theorem alS_ok (d : Int) {n : Nat} (hn : n ≤ 58) : (alS d n).Nodup ∧ ∀ c ∈ alS d n, 33 ≤ c.toNat ∧ c.toNat ≤ 126 := by
  refine ⟨List.pairwise_iff_getElem.mpr fun i j hi hj hij e => ?_, fun c hc => ?_⟩
  · rw [alS_len] at hi hj
    rw [alS_get hi, alS_get hj] at e
    have e' := congrArg UInt8.toNat e
    rw [u8_of (sgn_in d i), u8_of (sgn_in d j)] at e'
    have h1 := sgn_in d i
    have h2 := sgn_in d j
    exact sgn_inj (d := d) hij (by omega) (by omega)
  · unfold alS at hc
    obtain ⟨m, hm, rfl⟩ := List.mem_map.mp hc
    obtain ⟨k, hk, rfl⟩ := List.mem_map.mp hm
    have h := sgn_in d k
    rw [u8_of h]; omega
end B58

namespace B58

theorem pow_two_le {b L : Nat} (hb : 2 ≤ b) (hL : 1 ≤ L) : 2 ≤ b ^ L := Nat.le_trans (show 2 ≤ b ^ 1 by simpa using hb) (Nat.pow_le_pow_right (by omega) hL)

/-- so many digits of a number -/
def dig (b : Nat) : Nat → Nat → List Nat
  | 0, _ => []
  | p + 1, m => dig b p (m / b) ++ [m % b]
/-- a number's row, filled up with noughts -/
def pad (b p m : Nat) : List Nat := List.replicate (p - (digs b m).length) 0 ++ digs b m

theorem dig_zero (b p : Nat) : dig b p 0 = List.replicate p 0 := by
  induction p with
  | zero => rfl
  | succ p ih => rw [List.replicate_succ', ← ih]; show dig b p (0 / b) ++ [0 % b] = _; rw [Nat.zero_div, Nat.zero_mod]
theorem pad_dig {b : Nat} (hb : 2 ≤ b) : ∀ p m, m < b ^ p → pad b p m = dig b p m := by
  intro p
  induction p with
  | zero =>
    intro m h
    have : m = 0 := by simpa using h
    subst this
    unfold pad; rw [digs_zero]; rfl
  | succ p ih =>
    intro m h
    by_cases hm : m = 0
    · subst hm; unfold pad; rw [digs_zero, dig_zero]; simp
    · have h1 := ih (m / b) (by rw [Nat.div_lt_iff_lt_mul (by omega)]; rwa [Nat.pow_succ] at h)
      unfold pad at h1 ⊢
      rw [digs_pos hb hm, List.length_append, List.length_singleton, Nat.add_sub_add_right, ← List.append_assoc, h1]
      rfl
theorem dig_val {b : Nat} (hb : 2 ≤ b) : ∀ (p : Nat) (l : List Nat), l.length = p → (∀ d ∈ l, d < b) → dig b p (val b l) = l := by
  intro p
  induction p with
  | zero => intro l h _; rw [List.length_eq_zero_iff.mp h]; rfl
  | succ p ih =>
    intro l h hl
    obtain ⟨r, d, rfl⟩ : ∃ r d, l = r ++ [d] := by
      have hne : l ≠ [] := by intro e; rw [e] at h; cases h
      exact ⟨l.dropLast, l.getLast hne, (List.dropLast_concat_getLast hne).symm⟩
    have hd : d < b := hl d (by simp)
    rw [val_snoc]
    show dig b p ((val b r * b + d) / b) ++ [(val b r * b + d) % b] = _
    rw [Nat.mul_comm, Nat.mul_add_div (by omega), Nat.div_eq_of_lt hd, Nat.add_zero, Nat.mul_add_mod, Nat.mod_eq_of_lt hd, ih r (by simpa using h) fun x hx => hl x (by simp [hx])]
theorem pad_val {b : Nat} (hb : 2 ≤ b) {l : List Nat} (hl : ∀ d ∈ l, d < b) : pad b l.length (val b l) = l := by
  rw [pad_dig hb _ _ (val_lt hb l hl), dig_val hb _ l rfl hl]
theorem val_inj {b : Nat} (hb : 2 ≤ b) {l r : List Nat} (hl : ∀ d ∈ l, d < b) (hr : ∀ d ∈ r, d < b) (hlen : l.length = r.length) (h : val b l = val b r) : l = r := by
  rw [← dig_val hb l.length l rfl hl, h, hlen, dig_val hb r.length r rfl hr]

/-- a row, its first digit laid behind the last -/
def rot1 : List Nat → List Nat
  | [] => []
  | d :: r => r ++ [d]
def rotN : Nat → List Nat → List Nat
  | 0, l => l
  | k + 1, l => rotN k (rot1 l)
theorem rot1_len (l : List Nat) : (rot1 l).length = l.length := by cases l <;> simp [rot1]
theorem rotN_len : ∀ k l, (rotN k l).length = l.length := by
  intro k
  induction k with
  | zero => intro l; rfl
  | succ k ih => intro l; show (rotN k (rot1 l)).length = _; rw [ih, rot1_len]
theorem rot1_mem {d : Nat} {l : List Nat} : d ∈ rot1 l ↔ d ∈ l := by
  cases l with
  | nil => exact Iff.rfl
  | cons x r => simp [rot1, or_comm]
theorem rotN_mem {d : Nat} : ∀ k l, d ∈ rotN k l ↔ d ∈ l := by
  intro k
  induction k with
  | zero => intro l; exact Iff.rfl
  | succ k ih => intro l; show d ∈ rotN k (rot1 l) ↔ _; rw [ih, rot1_mem]
theorem rotN_cut : ∀ k l, k ≤ l.length → rotN k l = l.drop k ++ l.take k := by
  intro k
  induction k with
  | zero => intro l _; simp [rotN]
  | succ k ih =>
    intro l h
    cases l with
    | nil => simp at h
    | cons d r =>
      show rotN k (r ++ [d]) = _
      have hk : k ≤ r.length := by simpa using h
      rw [ih _ (by rw [List.length_append, List.length_singleton]; omega), List.drop_append_of_le_length hk, List.take_append_of_le_length hk, List.append_assoc]
      rfl

/-- a row, laid end to end with itself -/
def many (m : Nat) (l : List Nat) : List Nat := (List.replicate m l).flatten
theorem many_turn (d : Nat) (r : List Nat) : ∀ m, many m (d :: r) ++ [d] = d :: many m (r ++ [d]) := by
  intro m
  induction m with
  | zero => rfl
  | succ m ih =>
    unfold many at ih ⊢
    rw [List.replicate_succ, List.replicate_succ, List.flatten_cons, List.flatten_cons, List.append_assoc, ih]
    simp
theorem many_len (m : Nat) (l : List Nat) : (many m l).length = m * l.length := by
  unfold many
  rw [List.length_flatten, List.map_replicate, List.sum_replicate_nat]
theorem many_take {m P d : Nat} {r : List Nat} (h : P + 1 ≤ m * (d :: r).length) : (many m (d :: r)).take (P + 1) = d :: (many m (r ++ [d])).take P := by
  have e := congrArg (List.take (P + 1)) (many_turn d r m)
  rw [List.take_append_of_le_length (by rw [many_len]; exact h), List.take_succ_cons] at e
  exact e

/-- the base times a row, and its turn -/
theorem val_rot {b : Nat} (hb : 2 ≤ b) (d : Nat) (r : List Nat) : val b (d :: r) * b = d * (b ^ (d :: r).length - 1) + val b (r ++ [d]) := by
  rw [val_cons, val_snoc, List.length_cons, Nat.pow_succ]
  have hp : 0 < b ^ r.length := Nat.pow_pos (by omega)
  have h1 : 1 ≤ b ^ r.length * b := Nat.mul_pos hp (by omega)
  obtain ⟨w, hw⟩ : ∃ w, b ^ r.length * b = w + 1 := ⟨b ^ r.length * b - 1, by omega⟩
  rw [Nat.add_mul, Nat.mul_assoc, hw, Nat.mul_add, Nat.mul_one, Nat.add_sub_cancel]
  omega
/-- the fraction's first digits, and what is left -/
theorem frac {b : Nat} (hb : 2 ≤ b) (m : Nat) : ∀ P (l : List Nat), l ≠ [] → P ≤ m * l.length → val b l * b ^ P = val b ((many m l).take P) * (b ^ l.length - 1) + val b (rotN P l) := by
  intro P
  induction P with
  | zero => intro l _ _; simp [rotN, val]
  | succ P ih =>
    intro l hl h
    cases l with
    | nil => exact absurd rfl hl
    | cons d r =>
      have hlen : (r ++ [d]).length = (d :: r).length := by simp
      have h1 := ih (r ++ [d]) (by simp) (by rw [hlen]; omega)
      have h2 := val_rot hb d r
      rw [hlen] at h1
      have htl : ((many m (r ++ [d])).take P).length = P := by rw [List.length_take, many_len, hlen]; omega
      rw [many_take h]
      have hvc : val b (d :: (many m (r ++ [d])).take P) = d * b ^ P + val b ((many m (r ++ [d])).take P) := by rw [val_cons, htl]
      rw [hvc]
      show _ = _ + val b (rotN P (r ++ [d]))
      rw [Nat.pow_succ, Nat.mul_comm (b ^ P) b, ← Nat.mul_assoc, h2, Nat.add_mul, h1, Nat.add_mul]
      rw [Nat.mul_right_comm d]
      omega
theorem val_top {b : Nat} (hb : 2 ≤ b) : ∀ l : List Nat, (∀ d ∈ l, d < b) → (∃ d ∈ l, d ≠ b - 1) → val b l < b ^ l.length - 1 := by
  intro l
  induction l with
  | nil => intro _ h; obtain ⟨d, hd, _⟩ := h; cases hd
  | cons d r ih =>
    intro hl h
    rw [val_cons, List.length_cons, Nat.pow_succ]
    have hp : 0 < b ^ r.length := Nat.pow_pos (by omega)
    have hd : d < b := hl d (List.mem_cons_self ..)
    have hr := val_lt hb r fun x hx => hl x (List.mem_cons_of_mem _ hx)
    obtain ⟨c, rfl⟩ : ∃ c, b = c + 1 := ⟨b - 1, by omega⟩
    rw [Nat.mul_add, Nat.mul_one, Nat.mul_comm _ c]
    by_cases hdc : d = c
    · have hr' : ∃ x ∈ r, x ≠ c + 1 - 1 := by
        obtain ⟨x, hx, hn⟩ := h
        rcases List.mem_cons.mp hx with rfl | hx
        · exact absurd (by omega) hn
        · exact ⟨x, hx, hn⟩
      have := ih (fun x hx => hl x (List.mem_cons_of_mem _ hx)) hr'
      rw [hdc]; omega
    · have : (d + 1) * (c + 1) ^ r.length ≤ c * (c + 1) ^ r.length := Nat.mul_le_mul_right _ (by omega)
      rw [Nat.add_mul, Nat.one_mul] at this
      have h1 : 1 ≤ (c + 1) ^ r.length := hp
      by_cases hrr : r = []
      · subst hrr
        simp only [List.length_nil, Nat.pow_zero, val, List.foldl_nil] at *
        omega
      · have : 2 ≤ (c + 1) ^ r.length := pow_two_le hb (by cases r with | nil => exact absurd rfl hrr | cons _ _ => simp)
        omega

/-- what fills a row up to its last signs -/
def rst (b : Nat) (l : List Nat) : List Nat := l.map fun d => b - 1 - d
theorem val_rst {b : Nat} (hb : 2 ≤ b) : ∀ l : List Nat, (∀ d ∈ l, d < b) → val b (rst b l) + val b l = b ^ l.length - 1 := by
  intro l
  induction l with
  | nil => intro _; rfl
  | cons d r ih =>
    intro hl
    have h := ih fun x hx => hl x (List.mem_cons_of_mem _ hx)
    have hd : d < b := hl d (List.mem_cons_self ..)
    have hlen : (rst b r).length = r.length := by simp [rst]
    show val b ((b - 1 - d) :: rst b r) + _ = _
    rw [val_cons, val_cons, hlen, List.length_cons, Nat.pow_succ]
    have hp : 0 < b ^ r.length := Nat.pow_pos (by omega)
    have e : (b - 1 - d) * b ^ r.length + d * b ^ r.length = (b - 1) * b ^ r.length := by rw [← Nat.add_mul]; congr 1; omega
    have e2 : b ^ r.length * b = (b - 1) * b ^ r.length + b ^ r.length := by
      obtain ⟨c, rfl⟩ : ∃ c, b = c + 1 := ⟨b - 1, by omega⟩
      rw [Nat.add_sub_cancel, Nat.mul_add, Nat.mul_one, Nat.mul_comm c]
    omega
theorem val_whole {b : Nat} (hb : 2 ≤ b) {l : List Nat} (hl : ∀ d ∈ l, d < b) : (val b l + 1) * (b ^ l.length - 1) = val b (l ++ rst b l) := by
  have h := val_rst hb l hl
  have hp : 0 < b ^ l.length := Nat.pow_pos (by omega)
  have hlen : (rst b l).length = l.length := by simp [rst]
  rw [val_append, hlen]
  obtain ⟨w, hw⟩ : ∃ w, b ^ l.length = w + 1 := ⟨b ^ l.length - 1, by omega⟩
  rw [hw] at h ⊢
  rw [Nat.add_sub_cancel, Nat.add_mul, Nat.one_mul, Nat.mul_add, Nat.mul_one]
  omega
theorem rst_lt {b : Nat} (hb : 2 ≤ b) (l : List Nat) : ∀ d ∈ rst b l, d < b := by
  intro d hd
  obtain ⟨x, _, rfl⟩ := List.mem_map.mp hd
  omega
end B58

namespace B58

theorem size_up (a b : Int) (h : a ≤ b) : Builtin.Range.rangeSize a b 1 = ((b - a).toNat : Nat) := by
  rw [rangeSize_one]
  split <;> omega
theorem size_down (a : Int) (h : -1 ≤ a) : Builtin.Range.rangeSize a (-1) (-1) = ((a + 1).toNat : Nat) := by
  unfold Builtin.Range.rangeSize
  rw [if_neg (by decide)]
  by_cases h' : a > -1
  · rw [if_pos h', show (- -1 : Int) = 1 from rfl, Int.ediv_one]; omega
  · rw [if_neg h']; omega

theorem two_cast (j : Nat) : (2 : Int) ^ j = ((2 ^ j : Nat) : Int) := by
  induction j with
  | zero => rfl
  | succ j ih => rw [Int.pow_succ, ih, Nat.pow_succ, Int.natCast_mul]; rfl

theorem small_down {a : Int} (h : -1 ≤ a) (h' : a < 2 ^ 60) : Builtin.Range.small a (-1) (-1) = true := by
  unfold Builtin.Range.small
  rw [size_down a h]
  rw [if_neg (by decide)]
  simp only [Builtin.Range.rangeFitsLong, Bool.and_eq_true, Bool.or_eq_true, decide_eq_true_eq, beq_iff_eq]
  omega

theorem clip_nat (n i : Nat) : clipAt n ((i : Nat) : Int) = min i n := by unfold clipAt; omega
theorem cut_from {α : Type} (xs : List α) (i : Nat) : cut xs (some (i : Int)) none = xs.drop i := by
  unfold cut
  simp only [Option.elim, clip_nat]
  by_cases h : i ≤ xs.length
  · rw [Nat.min_eq_left h, List.take_of_length_le (by rw [List.length_drop]; exact Nat.le_refl _)]
  · rw [Nat.min_eq_right (by omega), List.drop_of_length_le (Nat.le_refl _), List.drop_of_length_le (by omega)]; simp
theorem cut_to {α : Type} (xs : List α) (i : Nat) : cut xs none (some (i : Int)) = xs.take i := by
  unfold cut
  simp only [Option.elim, clip_nat, List.drop_zero, Nat.sub_zero]
  by_cases h : i ≤ xs.length
  · rw [Nat.min_eq_left h]
  · rw [Nat.min_eq_right (by omega), List.take_of_length_le (Nat.le_refl _), List.take_of_length_le (by omega)]

section
variable {prog : Program} {w : World} {A : Around} {env : Env} {bad : List Addr} {s s' : Shared} {D : Dt} {σ : List (Str × PV)}
theorem Ev.drawn (C : Cx prog w A env s D σ) {x : Str} {ds : List Int} {i : Nat} {n : Int} {p1 p2 p3 : Pos} {k : Nat} (h : σ.lookup x = some (.list ds)) (hl : ds.length < 2 ^ 60) (e : ds[i]? = some n) :
    Ev prog w A env bad s (.Subscript (.Name x p1) (.Constant (.int i) k p2) p3) (.int n) :=
  Ev.item (Ev.name0 C h) Ev.cInt (ItemR.list (by omega) (by omega) (by simpa using e)) rfl

theorem sm_of {n : Int} (h : n.natAbs < 2 ^ 3000) : Sm n := Nat.lt_trans h (Nat.pow_lt_pow_right (by omega) (by omega))
theorem sm_nat {n k : Nat} (h : n < 2 ^ k) (hk : k ≤ 3000) : Sm (n : Int) := sm_of (by rw [Int.natAbs_natCast]; exact Nat.lt_of_lt_of_le h (Nat.pow_le_pow_right (by omega) hk))

end

theorem cut_both {α : Type} (xs : List α) {i j : Nat} (hj : j ≤ xs.length) : cut xs (some (i : Int)) (some (j : Int)) = (xs.take j).drop i := by
  unfold cut
  simp only [Option.elim, clip_nat]
  rw [Nat.min_eq_left hj]
  by_cases h : i ≤ xs.length
  · rw [Nat.min_eq_left h, List.drop_take]
  · rw [Nat.min_eq_right (by omega), List.drop_of_length_le (Nat.le_refl _), List.drop_of_length_le (by rw [List.length_take]; omega)]; simp
theorem rng_cons (a c : Int) (n : Nat) : rng a c (n + 1) = a :: rng (a + c) c n := by
  unfold rng
  rw [List.range_succ_eq_map, List.map_cons, List.map_map]
  congr 1
  · simp
  · refine List.map_congr_left fun i _ => ?_
    simp only [Function.comp]
    rw [show ((Nat.succ i : Nat) : Int) = (i : Int) + 1 from rfl, Int.add_mul, Int.one_mul]
    omega
theorem filter_true {α : Type} (l : List α) : l.filter (fun _ => true) = l := List.filter_eq_self.mpr fun _ _ => rfl
theorem txt_take {al : List UInt8} {l : List Nat} {i j : Nat} : ((txt al l).take j).drop i = txt al ((l.take j).drop i) := by unfold txt; rw [List.map_drop, List.map_take]
theorem txt_len {al : List UInt8} {l : List Nat} : (txt al l).length = l.length := by simp [txt]
theorem own_of {env : Env} {x : Str} (h : env.kindOf x = some .local ∨ (env.kindOf x = some .cell ∧ (env.cells.lookup x).isSome = true)) : Own env x := h
end B58

namespace B58

theorem drs_get {dr : Int → Int} {n i : Nat} (h : i < n) : ((rng 0 1 n).map dr)[i]? = some (dr i) := by
  rw [rng_one, List.map_map, List.getElem?_map, List.getElem?_range h]; rfl
theorem nat_digits {n : Nat} (hn : 0 < n) (xs : List Int) : ∃ l : List Nat, (xs.map fun a => a.fmod n) = l.map (fun (d : Nat) => (d : Int)) ∧ (∀ d ∈ l, d < n) ∧ l.length = xs.length := by
  induction xs with
  | nil => exact ⟨[], rfl, fun d h => by (cases h), rfl⟩
  | cons x r ih =>
    obtain ⟨l, h1, h2, h3⟩ := ih
    have a := Int.fmod_nonneg_of_pos x (b := (n : Int)) (by omega)
    have b := Int.fmod_lt_of_pos x (b := (n : Int)) (by omega)
    refine ⟨(x.fmod n).toNat :: l, by rw [List.map_cons, List.map_cons, h1, Int.toNat_of_nonneg a], fun d hd => ?_, by simp [h3]⟩
    rcases List.mem_cons.mp hd with rfl | hd
    · omega
    · exact h2 d hd
theorem bytes_txt {al : List UInt8} {l : List Nat} : (((l.map (fun (d : Nat) => (d : Int))).map fun k => ((al.getD k.toNat 0).toNat : Int)).map fun n => n.toNat.toUInt8) = txt al l := by
  rw [List.map_map, List.map_map]
  refine List.map_congr_left fun d _ => ?_
  simp only [Function.comp, Int.toNat_natCast]
  exact UInt8.toNat_inj.mp (by show _ % 2 ^ 8 = _; have := (al.getD d 0).toNat_lt; omega)
theorem mod_same {a b m : Int} (hm : 0 < m) {k : Int} (h : a = b + k * m) : a.fmod m = b.fmod m := by
  rw [Int.fmod_eq_emod_of_nonneg _ (by omega), Int.fmod_eq_emod_of_nonneg _ (by omega), h, Int.add_mul_emod_self_right]
theorem pow_58 {n k : Nat} (hn : n ≤ 58) (hk : k ≤ 20) : n ^ k < 2 ^ 120 :=
  Nat.lt_of_le_of_lt (Nat.pow_le_pow_left hn k) (Nat.lt_of_le_of_lt (Nat.pow_le_pow_right (by omega) hk) (by decide))

end B58

namespace B58

theorem pad_txt {al : List UInt8} (h : 1 ≤ al.length) (p m : Nat) : (List.replicate (p - (enc al m).length) (al.take 1)).flatten ++ enc al m = txt al (pad al.length p m) := by
  obtain ⟨a, r, rfl⟩ : ∃ a r, al = a :: r := by
    match al, h with
    | a :: r, _ => exact ⟨a, r, rfl⟩
  rw [enc_txt, txt_len]
  unfold pad txt
  rw [List.map_append, List.map_replicate]
  congr 1
  rw [show (a :: r).take 1 = [a] from rfl, List.flatten_replicate_singleton]
  rfl

section
variable {prog : Program} {w : World} {A : Around} {D : Dt}
set_option maxHeartbeats 2000000

theorem filled_fn {fa : Addr} {dV kV doc pm cdv ct : Value} {an : Option Addr} {oc : Value} {od : Option Addr} {sl : Array (Option Value)}
    (hroom : A.depth + 2 < recursionLimit) (hh : A.handled = none) (hN : ∀ A' : Around, A'.depth + 1 < recursionLimit → A'.handled = none → Fns prog w A' D) (ho : (fa, (⟨oc, od, .func (mkF PW 8 dV kV doc pm cdv ct an), sl⟩ : Obj)) ∈ D.objs)
    (hcd : ∀ h, GF h D → h.CodeRec cdv (nameOf PW 8)) (hdV : dV = .none)
    {al : List UInt8} (hal : 2 ≤ al.length) (hz : al.length ≤ 58) {m p : Nat} (hm : m < 2 ^ 1000) (hp : p ≤ 1000) :
    FnR prog w A D fa [.int m, .int p, .bytes al] (.bytes (txt al (pad al.length p m))) := by
  subst hdV
  refine FnR.mk (loc := [("number", .int m), ("places", .int p), ("signs", .bytes al)]) (by omega) hh ho rfl rfl rfl hcd (fun s vs G hr => ?_) (show ([("number" : Str), "places", "signs"]).Nodup by decide) (fun L q hq => ?_) rfl rfl rfl rfl rfl ?_
  · cases hr with
    | cons r1 hr => cases hr with
      | cons r2 hr => cases hr with
        | cons r3 hr =>
          cases hr
          exact ⟨_, BindsTo.of_eq rfl, .cons r1 rfl (.cons r2 rfl (.cons r3 rfl .nil))⟩
  · simp only [List.mem_cons, List.not_mem_nil, or_false] at hq
    rcases hq with rfl | rfl | rfl <;> exact .inl rfl
  · intro bad s₀ s E Φ hLv F S hret
    have C := S.cx F rfl
    have N := hN (A.deeper (callEnvC (mkF PW 8 .none kV doc pm cdv ct an) s₀.heap.objs.size fa)) hroom hh
    have hbig : m < 2 ^ 4000 := Nat.lt_trans hm (Nat.pow_lt_pow_right (by omega) (by omega))
    have hel : (enc al m).length ≤ 1000 := enc_len hal hm
    refine Z.assign F S (EvF.encode N C (n := m) (d := false) (al := al) rfl (Ev.name0 C rfl) Ev.cBool (Ev.name0 C rfl) rfl rfl rfl hal (by omega) hbig (.inr rfl)) (.inl rfl) rfl fun s S => ?_
    have C := S.cx F rfl
    have c1 := cut_to al 1
    have ht1 : al.take 1 ≠ [] := fun h => by have := congrArg List.length h; rw [List.length_take, List.length_nil] at this; omega
    have hlen1 : (al.take 1).length = 1 := by rw [List.length_take]; omega
    have htn : ((p : Int) - ((enc al m).length : Int)).toNat = p - (enc al m).length := by omega
    have hfl : ((List.replicate ((p : Int) - ((enc al m).length : Int)).toNat (al.take 1)).flatten).length = p - (enc al m).length := by
      rw [htn, List.length_flatten, List.map_replicate, List.sum_replicate_nat, hlen1, Nat.mul_one]
    refine Z.ret (bad := bad) (p := .bytes (txt al (pad al.length p m))) (Ev.flat (bad := []) (Ev.cast (Ev.bin (Ev.bin (Ev.cast (Ev.cutB (b := al) (Ev.name0 C rfl) .none (.some Ev.cInt) (by omega)) (congrArg PV.bytes c1)) (Ev.bin (Ev.name0 C rfl) (Ev.callB C rfl N.len rfl (.cons (Ev.name0 C rfl) rfl .nil) (fun b hb => by cases hb) (CallR.lenB (by omega))) (fun b hb => by cases hb) BinR.sub) (fun b hb => by cases hb) (BinR.repB (b := al.take 1) ht1 (by omega) (by omega) (by omega))) (Ev.name0 C rfl) (fun b hb => by cases hb) (BinR.cat (by rw [hfl]; omega))) (by rw [htn, pad_txt (by omega)])) rfl) fun v s' k r => hret v s' (S.out.trans k) r
end
end B58

namespace B58

/-- the text's own function -/
structure Fns3 (prog : Program) (w : World) (D : Dt) : Prop where
  filled : ∃ fa o fd, D.names.lookup (nameOf PW 8) = some (.ref fa) ∧ (fa, o) ∈ D.objs ∧ o.data = .func fd ∧ ∀ (A : Around) (al : List UInt8) (m p : Nat), A.depth + 2 < recursionLimit → A.handled = none → 2 ≤ al.length → al.length ≤ 58 → m < 2 ^ 1000 → p ≤ 1000 →
    FnR prog w A D fa [.int m, .int p, .bytes al] (.bytes (txt al (pad al.length p m)))
  min : D.names.lookup (Str.ofString "min") = some (.builtin "min")

theorem txt_many (al : List UInt8) (m : Nat) (l : List Nat) : (List.replicate m (txt al l)).flatten = txt al (many m l) := by
  unfold many txt
  rw [List.map_flatten, List.map_replicate]
theorem txt_inj {al : List UInt8} (hnd : al.Nodup) {l r : List Nat} (hl : ∀ d ∈ l, d < al.length) (hr : ∀ d ∈ r, d < al.length) (h : txt al l = txt al r) : l = r := by
  have e1 : (txt al l).map (fun c => al.idxOf c) = l := by
    unfold txt; rw [List.map_map]
    conv => rhs; rw [← List.map_id l]
    exact List.map_congr_left fun d hd => idx_getD hnd (hl d hd)
  have e2 : (txt al r).map (fun c => al.idxOf c) = r := by
    unfold txt; rw [List.map_map]
    conv => rhs; rw [← List.map_id r]
    exact List.map_congr_left fun d hd => idx_getD hnd (hr d hd)
  rw [← e1, ← e2, h]
theorem txt_rot (al : List UInt8) (l : List Nat) (k : Nat) : (txt al l).drop k ++ (txt al l).take k = txt al (l.drop k ++ l.take k) := by unfold txt; rw [List.map_append, List.map_drop, List.map_take]
theorem rst_txt {al : List UInt8} {l : List Nat} (hl : ∀ d ∈ l, d < al.length) : (((l.map (fun (d : Nat) => (d : Int))).map fun k => ((al.getD ((al.length : Int) - 1 - k).toNat 0).toNat : Int)).map fun n => n.toNat.toUInt8) = txt al (rst al.length l) := by
  unfold txt rst
  rw [List.map_map, List.map_map, List.map_map]
  refine List.map_congr_left fun d hd => ?_
  simp only [Function.comp]
  have := hl d hd
  rw [show ((al.length : Int) - 1 - (d : Int)).toNat = al.length - 1 - d by omega]
  exact UInt8.toNat_inj.mp (by show _ % 2 ^ 8 = _; have := (al.getD (al.length - 1 - d) 0).toNat_lt; omega)
theorem pow_58b {n k : Nat} (hn : n ≤ 58) (hk : k ≤ 30) : n ^ k < 2 ^ 200 :=
  Nat.lt_of_le_of_lt (Nat.pow_le_pow_left hn k) (Nat.lt_of_le_of_lt (Nat.pow_le_pow_right (by omega) hk) (by decide))

theorem turn_iff {b : Nat} (hb : 2 ≤ b) {l : List Nat} (hne : l ≠ []) (hl : ∀ d ∈ l, d < b) (hmix : ∃ d ∈ l, d ≠ b - 1) {j : Nat} (hj : j ≤ 31 * l.length) :
    (((val b l : Nat) : Int) * (((b ^ j : Nat) : Int) - 1)).fmod ((b ^ l.length - 1 : Nat) : Int) = 0 ↔ rotN j l = l := by
  have h1 := frac hb 31 j l hne hj
  have h2 := val_top hb l hl hmix
  have h3 : val b (rotN j l) < b ^ l.length - 1 := by
    have := val_top hb (rotN j l) (fun d hd => hl d ((rotN_mem j l).mp hd)) (by obtain ⟨d, hd, h⟩ := hmix; exact ⟨d, (rotN_mem j l).mpr hd, h⟩)
    rwa [rotN_len] at this
  have h4 : rotN j l = l ↔ val b (rotN j l) = val b l := ⟨fun h => by rw [h], fun h => val_inj hb (fun d hd => hl d ((rotN_mem j l).mp hd)) hl (rotN_len j l) h⟩
  rw [h4, Int.fmod_eq_emod_of_nonneg _ (by omega), Int.mul_sub, Int.mul_one, ← Int.natCast_mul, h1, Int.natCast_add, Int.natCast_mul, Int.add_sub_assoc, Int.add_comm, Int.add_mul_emod_self_right]
  generalize val b (rotN j l) = R at *
  generalize val b l = N at *
  generalize b ^ l.length - 1 = W at *
  clear h1 h4
  constructor
  · intro h
    rcases Nat.lt_trichotomy R N with hlt | heq | hgt
    · have e : ((R : Int) - N) % W = (R : Int) - N + W := by
        rw [← Int.add_emod_right, Int.emod_eq_of_lt (by omega) (by omega)]
      omega
    · exact heq
    · have e : ((R : Int) - N) % W = (R : Int) - N := Int.emod_eq_of_lt (by omega) (by omega)
      omega
  · intro h
    rw [h, Int.sub_self]; exact Int.zero_emod _

section
variable {prog : Program} {w : World} {A : Around} {env : Env} {s : Shared} {D : Dt} {σ : List (Str × PV)}
theorem EvF.fill (N3 : Fns3 prog w D) (hroom : A.depth + 2 < recursionLimit) (C : Cx prog w A env s D σ) {e1 e2 e3 : Expr} {np pos : Pos} {m p : Nat} {al : List UInt8} (hk : env.kindOf (nameOf PW 8) = some .globalImplicit) (h1 : Ev prog w A env [] s e1 (.int m)) (h2 : Ev prog w A env [] s e2 (.int p)) (h3 : Ev prog w A env [] s e3 (.bytes al))
    (hs1 : starEach [e1, e2, e3] env = (false, eval e1 env) :: starEach [e2, e3] env) (hs2 : starEach [e2, e3] env = (false, eval e2 env) :: starEach [e3] env) (hs3 : starEach [e3] env = (false, eval e3 env) :: starEach [] env)
    (hal : 2 ≤ al.length) (hal' : al.length ≤ 58) (hm : m < 2 ^ 1000) (hp : p ≤ 1000) {r : List Nat} (hr : pad al.length p m = r) : EvF prog w A env s (.Call (.Name (nameOf PW 8) np) [e1, e2, e3] [] pos) (.bytes (txt al r)) := by
  subst hr
  obtain ⟨fa, o, fd, hD, ho, hfd, H⟩ := N3.filled
  exact EvF.callF C hk hD (by decide) ho hfd (.cons h1 hs1 (.cons h2 hs2 (.cons h3 hs3 .nil))) (H A al m p hroom C.hh hal hal' hm hp)
/-- x[k:] + x[:k] -/
theorem Ev.turnK {e e' f f' : Expr} {b : List UInt8} {k : Nat} {p1 p2 p3 p4 p5 : Pos} (he : Ev prog w A env [] s e (.bytes b)) (hf : Ev prog w A env [] s f (.int k)) (he' : Ev prog w A env [] s e' (.bytes b)) (hf' : Ev prog w A env [] s f' (.int k)) (hz : b.length ≤ 1000000) :
    Ev prog w A env [] s (.BinOp (.Subscript e (.Slice (some f) none none p1) p2) .Add (.Subscript e' (.Slice none (some f') none p3) p4) p5) (.bytes (b.drop k ++ b.take k)) := by
  have h1 := cut_from b k
  have h2 := cut_to b k
  exact Ev.bin (Ev.cast (Ev.cutB he (.some hf) .none (by omega)) (congrArg PV.bytes h1)) (Ev.cast (Ev.cutB he' .none (.some hf') (by omega)) (congrArg PV.bytes h2)) (fun b hb => by cases hb) (BinR.cat (by
    rw [List.length_drop, List.length_take]; omega))
end

section
variable {prog : Program} {w : World} {A : Around} {D : Dt}
set_option maxHeartbeats 2000000

theorem law3c {fa Lc : Addr} {dV kV doc pm cdv ct : Value} {an : Option Addr} {s₀ s : Shared} {E : Value → Shared → Prop} {Φ : Flow → Shared → Prop} {is ds : List Int} {dr : Int → Int} {al : List UInt8} {n : Nat} {l : List Nat}
    (hroom : A.depth + 3 < recursionLimit) (F : Fx prog w A (callEnvC (mkF PW 9 dV kV doc pm cdv ct an) Lc fa) s₀ D)
    (S : St prog w (callEnvC (mkF PW 9 dV kV doc pm cdv ct an) Lc fa) s₀ [] [("worths", .list (l.map (fun (d : Nat) => (d : Int)))), ("signs", .bytes al), ("size", .int n), ("draw", .list ds), ("script", .ilist is)] s) (N : Fns prog w A D) (N3 : Fns3 prog w D)
    (hn2 : 2 ≤ n) (hn58 : n ≤ 58) (hall : al.length = n) (hnd : al.Nodup) (hsp : ∀ c ∈ al, 33 ≤ c.toNat ∧ c.toNat ≤ 126) (hd14 : ds[14]? = some (dr 14)) (hdl : ds.length = 15) (hlo : ∀ k, 0 ≤ dr k)
    (hlt : ∀ d ∈ l, d < n) (hl1 : 1 ≤ l.length) (hl12 : l.length ≤ 12) (hmix : ∃ d ∈ l, d ≠ n - 1)
    (hret : ∀ s', Kp s₀ s' → Φ (.ret (.bool true)) s') :
    wpAny (model prog w) A (execs (List.drop 6 (bodyOf PW 9)) (callEnvC (mkF PW 9 dV kV doc pm cdv ct an) Lc fa)) Φ E s := by
  have hal : 2 ≤ al.length := by omega
  have hlt' : ∀ d ∈ l, d < al.length := by rw [hall]; exact hlt
  have C := S.cx F rfl
  have hdlim : ∀ v : List UInt8, v.length ≤ 20 → al.length ^ v.length < 2 ^ 3000 := fun v hv => by
    rw [hall]
    exact Nat.lt_of_lt_of_le (pow_58 hn58 hv) (Nat.pow_le_pow_right (by omega) (by omega))
  have hlm : (l.map (fun (d : Nat) => (d : Int))).length = l.length := List.length_map _
  have hget : ∀ d, d < al.length → al[d]? = some (al.getD d 0) := fun d hd => by rw [List.getD_eq_getElem?_getD, List.getElem?_eq_getElem hd]; rfl
  -- places, text
  refine Z.tup2 F S (p := .int l.length) (q := .bytes (txt al l)) (.cons (EvF.of (Ev.cast (Ev.callB C rfl N.len rfl (.cons (Ev.name0 C rfl) rfl .nil) (fun b hb => by cases hb) (CallR.lenL (by omega))) (by rw [hlm])) rfl) rfl
    (.cons (EvF.of (Ev.cast (Ev.callT C rfl N.bytes rfl (.cons (Ev.comp C [("signs", .bytes al)] (items := l.map (fun (d : Nat) => (d : Int))) (pz := fun _ => true) (g := fun k => ((al.getD k.toNat 0).toNat : Int)) rfl ⟨⟨rfl, rfl, rfl, rfl, rfl⟩, trivial⟩ (by decide) rfl (by decide) rfl rfl (fun _ => rfl)
      (Ev.name0 C rfl) (SrcR.list F.hh) (by rw [List.length_map]; omega) (fun b hb => by cases hb) (fun k hk K s₃ k₃ Cc => ⟨.none, fun _ => ?_⟩)) rfl .nil) (fun b hb => by cases hb) (CallR.bytes F.hh (fun m hm => by rw [filter_true] at hm; obtain ⟨k, _, rfl⟩ := List.mem_map.mp hm; have := (al.getD k.toNat 0).toNat_lt; omega) (by rw [filter_true, List.length_map, List.length_map]; omega))) (by rw [filter_true, bytes_txt])) rfl) rfl .nil))
    (by first | exact .inl rfl | exact .inr ⟨rfl, rfl⟩) (by first | exact .inl rfl | exact .inr ⟨rfl, rfl⟩) rfl (by first | exact .inr rfl | exact .inl rfl) rfl fun s S => ?_
  · obtain ⟨d, hd, rfl⟩ := List.mem_map.mp hk
    have := hlt' d hd
    exact Ev.item (Ev.name0 Cc rfl) (Ev.name0 Cc rfl) (ItemR.bytes (n := al.getD d 0) (by omega) (by omega) (by rw [Int.toNat_natCast]; exact hget d this)) rfl
  have C := S.cx F rfl
  -- number, whole
  have hW := val_top hn2 l hlt hmix
  have hp := pow_two_le (b := n) (L := l.length) hn2 hl1
  have hpl := pow_58 (k := l.length) hn58 (by omega)
  have hpc : ∀ k : Nat, (n : Int) ^ k = ((n ^ k : Nat) : Int) := fun k => (Int.natCast_pow n k).symm
  refine Z.tup2 F S (p := .int (val n l)) (q := .int ((n ^ l.length - 1 : Nat) : Int)) (.cons (EvF.of (Ev.cast (EvF.ev (EvF.decode N C (v := txt al l) (al := al) rfl (Ev.name0 C rfl) (Ev.name0 C rfl) rfl rfl hal (by omega) hnd hsp (txt_mem hlt') (hdlim _ (by rw [txt_len]; omega))) (fun b hb => by cases hb)) (by rw [dec_txt hnd hlt', hall])) rfl) rfl
    (.cons (EvF.of (Ev.cast (Ev.bin (Ev.bin (Ev.name0 C rfl) (Ev.name0 C rfl) (fun b hb => by cases hb) (BinR.pow (by omega) (by omega) (by omega))) Ev.cInt (fun b hb => by cases hb) BinR.sub) (by rw [Int.toNat_natCast, hpc]; congr 1; omega)) rfl) rfl .nil))
    (by first | exact .inl rfl | exact .inr ⟨rfl, rfl⟩) (by first | exact .inl rfl | exact .inr ⟨rfl, rfl⟩) rfl (by first | exact .inr rfl | exact .inl rfl) rfl fun s S => ?_
  have C := S.cx F rfl
  have hm1000 : ∀ m, m < 2 ^ 400 → m < 2 ^ 1000 := fun m hm => Nat.lt_trans hm (Nat.pow_lt_pow_right (by omega) (by omega))
  have hbigger : ∀ m, m < 2 ^ 120 → m < 2 ^ 400 := fun m hm => Nat.lt_trans hm (Nat.pow_lt_pow_right (by omega) (by omega))
  -- the number's text
  refine Z.skip S (Tr.cast (Tr.cmp (EvF.ev (EvF.fill N3 (by omega) C (m := val n l) (p := l.length) (al := al) rfl (Ev.name0 C rfl) (Ev.name0 C rfl) (Ev.name0 C rfl) rfl rfl rfl hal (by omega) (hm1000 _ (hbigger _ (by omega))) (by omega) (r := l) (by rw [hall]; exact pad_val hn2 hlt)) (fun b hb => by cases hb)) (Ev.name0 C rfl) CmpR.neB) (by simp)) fun s S => ?_
  have C := S.cx F rfl
  -- power
  obtain ⟨P, hP, hP30⟩ : ∃ P : Nat, (dr 14).fmod 31 = P ∧ P ≤ 30 := by
    have a := Int.fmod_nonneg_of_pos (dr 14) (b := 31) (by omega); have b := Int.fmod_lt_of_pos (dr 14) (b := 31) (by omega)
    exact ⟨((dr 14).fmod 31).toNat, by omega, by omega⟩
  refine Z.assign F S (p := .int P) (EvF.of (Ev.cast (Ev.bin (Ev.drawn (i := 14) C rfl (by omega) hd14) Ev.cInt (fun b hb => by cases hb) (BinR.mod (by decide))) (by rw [hP])) rfl) (by first | exact .inl rfl | exact .inr ⟨rfl, rfl⟩) rfl fun s S => ?_
  have C := S.cx F rfl
  have hne : l ≠ [] := by intro e; rw [e] at hl1; simp at hl1
  have hrot : ∀ k, val n (rotN k l) < n ^ l.length - 1 := fun k => by
    have := val_top hn2 (rotN k l) (fun d hd => hlt d ((rotN_mem k l).mp hd)) (by obtain ⟨d, hd, h⟩ := hmix; exact ⟨d, (rotN_mem k l).mpr hd, h⟩)
    rwa [rotN_len] at this
  have hfr : ∀ k, k ≤ 31 * l.length → val n l * n ^ k = val n ((many 31 l).take k) * (n ^ l.length - 1) + val n (rotN k l) := fun k hk => frac hn2 31 k l hne hk
  have hsmN : Sm ((val n l : Nat) : Int) := sm_nat (k := 120) (by omega) (by omega)
  have hsmP : ∀ k, k ≤ 30 → Sm (((n ^ k : Nat)) : Int) := fun k hk => sm_nat (k := 200) (pow_58b hn58 hk) (by omega)
  have hWpos : (0 : Int) < ((n ^ l.length - 1 : Nat) : Int) := by omega
  have hdiv : ∀ k, k ≤ 31 * l.length → (val n l * n ^ k) / (n ^ l.length - 1) = val n ((many 31 l).take k) := fun k hk => by
    rw [hfr k hk, Nat.mul_comm, Nat.mul_add_div (by omega), Nat.div_eq_of_lt (hrot k), Nat.add_zero]
  have hmod : ∀ k, k ≤ 31 * l.length → (val n l * n ^ k) % (n ^ l.length - 1) = val n (rotN k l) := fun k hk => by
    rw [hfr k hk, Nat.mul_comm, Nat.mul_add_mod, Nat.mod_eq_of_lt (hrot k)]
  have hml : ∀ d ∈ many 31 l, d < n := fun d hd => by
    unfold many at hd
    obtain ⟨r, hr, hd⟩ := List.mem_flatten.mp hd
    rw [(List.mem_replicate.mp hr).2] at hd
    exact hlt d hd
  have hF : ∀ k, k ≤ 30 → val n ((many 31 l).take k) < 2 ^ 200 ∧ ((many 31 l).take k).length = k := fun k hk => by
    have hk' : ((many 31 l).take k).length = k := by rw [List.length_take, many_len]; omega
    refine ⟨Nat.lt_trans (val_lt hn2 _ (fun d hd => hml d (List.mem_of_mem_take hd))) ?_, hk'⟩
    rw [hk']; exact pow_58b hn58 hk
  obtain ⟨hF1, hF2⟩ := hF P hP30
  have hPle : P ≤ 31 * l.length := by omega
  have htne : txt al l ≠ [] := fun h => by have := congrArg List.length h; rw [txt_len, List.length_nil] at this; omega
  have hrep : (List.replicate ((31 : Int)).toNat (txt al l)).flatten = txt al (many 31 l) := txt_many al 31 l
  have hcutP : cut (txt al (many 31 l)) none (some (P : Int)) = txt al ((many 31 l).take P) := by rw [cut_to]; unfold txt; rw [List.map_take]
  have hml31 : (txt al (many 31 l)).length ≤ 16777216 := by rw [txt_len, many_len]; omega
  have hpadF : pad n P (val n ((many 31 l).take P)) = (many 31 l).take P := by
    have h := pad_val hn2 (l := (many 31 l).take P) (fun d hd => hml d (List.mem_of_mem_take hd))
    rw [hF2] at h; exact h
  refine Z.skip S (Tr.cast (Tr.cmp (EvF.ev (EvF.fill N3 (by omega) C (m := val n ((many 31 l).take P)) (p := P) (al := al) rfl
      (Ev.cast (Ev.bin (Ev.bin (Ev.name0 C rfl) (Ev.cast (Ev.bin (Ev.name0 C rfl) (Ev.name0 C rfl) (fun b hb => by cases hb) (BinR.pow (by omega) (by omega) (by omega))) (by rw [Int.toNat_natCast, hpc])) (fun b hb => by cases hb) (BinR.mul hsmN (hsmP P hP30))) (Ev.name0 C rfl) (fun b hb => by cases hb) (BinR.fdiv (by omega) (sm_nat (k := 120) (by omega) (by omega)))) (by
        rw [Int.fdiv_eq_ediv_of_nonneg _ (by omega), ← hdiv P hPle, ← Int.natCast_mul]; rfl))
      (Ev.name0 C rfl) (Ev.name0 C rfl) rfl rfl rfl hal (by omega) (hm1000 _ (Nat.lt_trans hF1 (Nat.pow_lt_pow_right (by omega) (by omega)))) (by omega) (r := (many 31 l).take P) (by rw [hall]; exact hpadF)) (fun b hb => by cases hb))
    (Ev.cast (Ev.cutB (b := txt al (many 31 l)) (Ev.cast (Ev.bin (Ev.name0 C rfl) Ev.cInt (fun b hb => by cases hb) (BinR.repB (b := txt al l) htne (by omega) (by omega) (by rw [txt_len]; omega))) (congrArg PV.bytes hrep)) .none (.some (Ev.name0 C rfl)) hml31) (congrArg PV.bytes hcutP)) CmpR.neB) (by simp)) fun s S => ?_
  have C := S.cx F rfl
  have hrl : ∀ k, k ≤ l.length → rotN k l = l.drop k ++ l.take k := fun k hk => rotN_cut k l hk
  have hrd : ∀ k, ∀ d ∈ rotN k l, d < n := fun k d hd => hlt d ((rotN_mem k l).mp hd)
  have hpadR : ∀ k, pad n l.length (val n (rotN k l)) = rotN k l := fun k => by
    have h := pad_val hn2 (hrd k)
    rwa [rotN_len] at h
  -- the turned texts
  refine Z.for (τ := Unit) F (fun _ => [("number", .int (val n l)), ("whole", .int ((n ^ l.length - 1 : Nat) : Int)), ("places", .int l.length), ("text", .bytes (txt al l)), ("worths", .list (l.map (fun (d : Nat) => (d : Int)))), ("signs", .bytes al), ("size", .int n), ("script", .ilist is)]) (fun _ _ => True) () (items := rng 0 1 l.length)
    (S.re _ ⟨rfl, rfl, rfl, rfl, rfl, rfl, rfl, rfl, trivial⟩) trivial rfl (fun _ => rfl)
    (Ev.callT C rfl N.range rfl (.cons (Ev.name0 C rfl) rfl .nil) (fun b hb => by cases hb) CallR.range1) (SrcF.range F.hh (small_one (by omega) (by omega) (by omega) (by omega)) (by rw [size_up _ _ (by omega)]; omega)) (fun i a s kp Φ' E' hi _ S hk => ?_) (fun a s _ S => ?_)
  · rw [rng_len] at hi
    rw [rng_get _ _ hi, show (0 : Int) + (i : Int) * 1 = (i : Int) by omega] at S
    have C := S.cx F rfl
    have hnk : (val n l * n ^ i) < 2 ^ 400 := by
      have h1 : val n l * n ^ i ≤ 2 ^ 120 * 2 ^ 200 := Nat.mul_le_mul (by omega) (Nat.le_of_lt (pow_58b hn58 (by omega)))
      exact Nat.lt_of_le_of_lt h1 (by rw [← Nat.pow_add]; exact Nat.pow_lt_pow_right (by omega) (by omega))
    refine Z.skip S (Tr.cast (Tr.cmp (EvF.ev (EvF.fill N3 (by omega) C (m := val n (rotN i l)) (p := l.length) (al := al) rfl
        (Ev.cast (Ev.bin (Ev.bin (Ev.name0 C rfl) (Ev.cast (Ev.bin (Ev.name0 C rfl) (Ev.name0 C rfl) (fun b hb => by cases hb) (BinR.pow (by omega) (by omega) (by omega))) (by rw [Int.toNat_natCast, hpc])) (fun b hb => by cases hb) (BinR.mul hsmN (hsmP i (by omega)))) (Ev.name0 C rfl) (fun b hb => by cases hb) (BinR.mod (by omega))) (by
          rw [Int.fmod_eq_emod_of_nonneg _ (by omega), ← hmod i (by omega), ← Int.natCast_mul]; rfl))
        (Ev.name0 C rfl) (Ev.name0 C rfl) rfl rfl rfl hal (by omega) (hm1000 _ (hbigger _ (by have := hrot i; omega))) (by omega) (r := rotN i l) (by rw [hall]; exact hpadR i)) (fun b hb => by cases hb))
      (Ev.turnK (Ev.name0 C rfl) (Ev.name0 C rfl) (Ev.name0 C rfl) (Ev.name0 C rfl) (by rw [txt_len]; omega)) CmpR.neB) (by rw [txt_rot, ← hrl i (by omega)]; simp)) fun s S => Z.nil ?_
    exact hk () s trivial (S.re _ ⟨rfl, rfl, rfl, rfl, rfl, rfl, rfl, rfl, trivial⟩)
  have C := S.cx F rfl
  -- back
  obtain ⟨ks, hks⟩ : ∃ ks, (rng 1 1 l.length).filter (fun k => txt al (rotN k.toNat l) == txt al l) = ks := ⟨_, rfl⟩
  have hin : ((l.length : Nat) : Int) ∈ ks := by
    rw [← hks]
    refine List.mem_filter.mpr ⟨?_, ?_⟩
    · unfold rng
      refine List.mem_map.mpr ⟨l.length - 1, List.mem_range.mpr (by omega), by omega⟩
    · rw [Int.toNat_natCast, hrl _ (Nat.le_refl _), List.drop_length, List.take_length, List.nil_append]; exact beq_self_eq_true _
  obtain ⟨bk, kr, rfl⟩ : ∃ x r, ks = x :: r := by
    cases ks with
    | nil => cases hin
    | cons x r => exact ⟨x, r, rfl⟩
  have hrg : ∀ x ∈ rng 1 1 l.length, ∃ j : Nat, x = j ∧ 1 ≤ j ∧ j ≤ l.length := fun x hx => by
    unfold rng at hx
    obtain ⟨i, hi, rfl⟩ := List.mem_map.mp hx
    have := List.mem_range.mp hi
    exact ⟨i + 1, by omega, by omega, by omega⟩
  have hbk : bk ∈ (rng 1 1 l.length).filter (fun k => txt al (rotN k.toNat l) == txt al l) := by rw [hks]; exact List.mem_cons_self ..
  obtain ⟨hbk1, hbk2⟩ := List.mem_filter.mp hbk
  obtain ⟨B, rfl, hB1, hB2⟩ := hrg bk hbk1
  have hrB : rotN B l = l := by
    have h := beq_iff_eq.mp hbk2
    rw [Int.toNat_natCast] at h
    exact txt_inj hnd (fun d hd => hall ▸ hrd B d hd) hlt' h
  have hlen1 : (rng 1 1 l.length).length = l.length := rng_len 1 1 _
  have hksl : (((B : Int) :: kr).length : Int) < 2 ^ 63 := by
    have h := List.length_filter_le (fun k : Int => txt al (rotN k.toNat l) == txt al l) (rng 1 1 l.length)
    rw [hks, hlen1] at h
    omega
  refine Z.assign F S (p := .int B) (EvF.of (Ev.item (Ev.cast (Ev.comp C [("text", .bytes (txt al l))] (items := rng 1 1 l.length) (pz := fun k => txt al (rotN k.toNat l) == txt al l) (g := fun k => k) rfl ⟨⟨rfl, rfl, rfl, rfl, rfl⟩, trivial⟩ (by decide) rfl (by decide) rfl rfl (fun _ => rfl)
      (Ev.callT C rfl N.range rfl (.cons Ev.cInt rfl (.cons (Ev.bin (Ev.name0 C rfl) Ev.cInt (fun b hb => by cases hb) BinR.add) rfl .nil)) (fun b hb => by cases hb) CallR.range2) (SrcR.range F.hh (small_one (by omega) (by omega) (by omega) (by omega)) (by rw [size_up _ _ (by omega)]; omega)) (by rw [hlen1]; omega) (fun b hb => by cases hb) (fun k hk K s₃ k₃ Cc => ?_)) (by rw [List.map_id', hks])) Ev.cInt (ItemR.list (is := (B : Int) :: kr) (by omega) hksl rfl) rfl) rfl) (by first | exact .inl rfl | exact .inr ⟨rfl, rfl⟩) rfl fun s S => ?_
  · obtain ⟨j, rfl, hj1, hj2⟩ := hrg k hk
    refine ⟨.one (Tr.cast (Tr.cmp (Ev.turnK (Ev.name0 Cc rfl) (Ev.name0 Cc rfl) (Ev.name0 Cc rfl) (Ev.name0 Cc rfl) (by rw [txt_len]; omega)) (Ev.name0 Cc rfl) CmpR.eqB) (by rw [txt_rot, ← hrl j hj2]; rfl)), fun _ => Ev.name0 Cc rfl⟩
  have C := S.cx F rfl
  have hmt : (many 31 l).take B = l.take B := by
    have : many 31 l = l ++ many 30 l := by unfold many; rw [show (31 : Nat) = 30 + 1 from rfl, List.replicate_succ, List.flatten_cons]
    rw [this, List.take_append_of_le_length hB2]
  have hfB := hfr B (by omega)
  rw [hrB, hmt] at hfB
  have hnB : n ^ B < 2 ^ 200 := pow_58b hn58 (by omega)
  have hnBpos : 0 < n ^ B := Nat.pow_pos (by omega)
  have htB : ∀ d ∈ l.take B, d < al.length := fun d hd => hlt' d (List.mem_of_mem_take hd)
  have htBv : val n (l.take B) < 2 ^ 120 := Nat.lt_trans (val_lt hn2 _ (fun d hd => hlt d (List.mem_of_mem_take hd))) (pow_58 hn58 (by rw [List.length_take]; omega))
  have heq : ((val n l : Nat) : Int) * (((n ^ B : Nat) : Int) - 1) = ((val n (l.take B) : Nat) : Int) * ((n ^ l.length - 1 : Nat) : Int) := by
    rw [Int.mul_sub, Int.mul_one, ← Int.natCast_mul, hfB, Int.natCast_add, Int.natCast_mul]
    omega
  have cB := cut_to (txt al l) B
  have hcB : cut (txt al l) none (some (B : Int)) = txt al (l.take B) := by rw [cut_to]; unfold txt; rw [List.map_take]
  have hsub : ∀ j, j ≤ 30 → Sm ((((n ^ j : Nat)) : Int) - 1) := fun j hj => by
    have h1 := pow_58b (k := j) hn58 hj
    have h2 : 0 < n ^ j := Nat.pow_pos (by omega)
    exact sm_of (Nat.lt_of_lt_of_le (show ((((n ^ j : Nat)) : Int) - 1).natAbs < 2 ^ 200 by omega) (Nat.pow_le_pow_right (by omega) (by omega)))
  refine Z.skip S (Tr.cast (Tr.boolop (.or (b := false) (Tr.cast (Tr.cmp (Ev.name0 C rfl) (Ev.item (Ev.cast (Ev.comp C [("number", .int (val n l)), ("size", .int n), ("whole", .int ((n ^ l.length - 1 : Nat) : Int))] (items := rng 1 1 l.length) (pz := fun k => txt al (rotN k.toNat l) == txt al l) (g := fun k => k) rfl ⟨⟨rfl, rfl, rfl, rfl, rfl⟩, ⟨rfl, rfl, rfl, rfl, rfl⟩, ⟨rfl, rfl, rfl, rfl, rfl⟩, trivial⟩ (by decide) rfl (by decide) rfl rfl (fun _ => rfl)
      (Ev.callT C rfl N.range rfl (.cons Ev.cInt rfl (.cons (Ev.bin (Ev.name0 C rfl) Ev.cInt (fun b hb => by cases hb) BinR.add) rfl .nil)) (fun b hb => by cases hb) CallR.range2) (SrcR.range F.hh (small_one (by omega) (by omega) (by omega) (by omega)) (by rw [size_up _ _ (by omega)]; omega)) (by rw [hlen1]; omega) (fun b hb => by cases hb) (fun k hk K s₃ k₃ Cc => ?_)) (by rw [List.map_id', hks])) Ev.cInt (ItemR.list (is := (B : Int) :: kr) (by omega) hksl rfl) rfl) CmpR.ne) (by simp)) fun _ =>
    .or (b := false) (Tr.cast (Tr.cmp (Ev.bin (Ev.name0 C rfl) (Ev.bin (Ev.cast (Ev.bin (Ev.name0 C rfl) (Ev.name0 C rfl) (fun b hb => by cases hb) (BinR.pow (by omega) (by omega) (by omega))) (by rw [Int.toNat_natCast, hpc])) Ev.cInt (fun b hb => by cases hb) BinR.sub) (fun b hb => by cases hb) (BinR.mul hsmN (hsub B (by omega))))
      (Ev.bin (Ev.cast (EvF.ev (EvF.decode N C (v := txt al (l.take B)) (al := al) rfl (Ev.cast (Ev.cutB (b := txt al l) (Ev.name0 C rfl) .none (.some (Ev.name0 C rfl)) (by rw [txt_len]; omega)) (congrArg PV.bytes hcB)) (Ev.name0 C rfl) rfl rfl hal (by omega) hnd hsp (txt_mem htB) (hdlim _ (by rw [txt_len, List.length_take]; omega))) (fun b hb => by cases hb)) (by rw [dec_txt hnd htB, hall])) (Ev.name0 C rfl) (fun b hb => by cases hb) (BinR.mul (sm_nat (k := 120) (by omega) (by omega)) (sm_nat (k := 120) (by omega) (by omega)))) CmpR.ne) (by rw [heq]; simp)) fun _ => .orNil)) rfl) fun s S => ?_
  · obtain ⟨j, rfl, hj1, hj2⟩ := hrg k hk
    have hti := turn_iff hn2 hne hlt hmix (j := j) (by omega)
    refine ⟨.one (Tr.cast (Tr.cmp (Ev.bin (Ev.bin (Ev.name0 Cc rfl) (Ev.bin (Ev.cast (Ev.bin (Ev.name0 Cc rfl) (Ev.name0 Cc rfl) (fun b hb => by cases hb) (BinR.pow (by omega) (by omega) (by omega))) (by rw [Int.toNat_natCast, hpc])) Ev.cInt (fun b hb => by cases hb) BinR.sub) (fun b hb => by cases hb) (BinR.mul hsmN (hsub j (by omega)))) (Ev.name0 Cc rfl) (fun b hb => by cases hb) (BinR.mod (by omega))) Ev.cInt CmpR.eq) ?_), fun _ => Ev.name0 Cc rfl⟩
    show _ = (txt al (rotN j l) == txt al l)
    by_cases h : rotN j l = l
    · rw [hti.mpr h, h]; simp
    · have h1 : ¬ txt al (rotN j l) = txt al l := fun e => h (txt_inj hnd (fun d hd => hall ▸ hrd j d hd) hlt' e)
      have h2 := fun e => h (hti.mp e)
      rw [beq_eq_false_iff_ne.mpr h1, beq_eq_false_iff_ne.mpr h2]
  have C := S.cx F rfl
  -- rest
  refine Z.assign F S (p := .bytes (txt al (rst n l))) (EvF.of (Ev.cast (Ev.callT C rfl N.bytes rfl (.cons (Ev.comp C [("signs", .bytes al), ("size", .int n)] (items := l.map (fun (d : Nat) => (d : Int))) (pz := fun _ => true) (g := fun k => ((al.getD ((al.length : Int) - 1 - k).toNat 0).toNat : Int)) rfl ⟨⟨rfl, rfl, rfl, rfl, rfl⟩, ⟨rfl, rfl, rfl, rfl, rfl⟩, trivial⟩ (by decide) rfl (by decide) rfl rfl (fun _ => rfl)
      (Ev.name0 C rfl) (SrcR.list F.hh) (by rw [List.length_map]; omega) (fun b hb => by cases hb) (fun k hk K s₃ k₃ Cc => ⟨.none, fun _ => ?_⟩)) rfl .nil) (fun b hb => by cases hb) (CallR.bytes F.hh (fun m hm => by rw [filter_true] at hm; obtain ⟨k, _, rfl⟩ := List.mem_map.mp hm; have := (al.getD ((al.length : Int) - 1 - k).toNat 0).toNat_lt; omega) (by rw [filter_true, List.length_map, List.length_map]; omega))) (by rw [filter_true, rst_txt hlt', hall])) rfl) (by first | exact .inl rfl | exact .inr ⟨rfl, rfl⟩) rfl fun s S => ?_
  · obtain ⟨d, hd, rfl⟩ := List.mem_map.mp hk
    have := hlt' d hd
    rw [hall]
    exact Ev.item (Ev.name0 Cc rfl) (Ev.bin (Ev.bin (Ev.name0 Cc rfl) Ev.cInt (fun b hb => by cases hb) BinR.sub) (Ev.name0 Cc rfl) (fun b hb => by cases hb) BinR.sub) (ItemR.bytes (n := al.getD ((n : Int) - 1 - (d : Int)).toNat 0) (by omega) (by omega) (hget _ (by omega))) rfl
  have C := S.cx F rfl
  have hrs := rst_lt hn2 l
  have hrs' : ∀ d ∈ rst n l, d < al.length := by rw [hall]; exact hrs
  have hrlen : (rst n l).length = l.length := by simp [rst]
  have hcat : ∀ d ∈ l ++ rst n l, d < n := fun d hd => by
    rcases List.mem_append.mp hd with h | h
    · exact hlt d h
    · exact hrs d h
  have hclen : (l ++ rst n l).length = 2 * l.length := by rw [List.length_append, hrlen]; omega
  have hwh := val_whole hn2 hlt
  have hcv : val n (l ++ rst n l) < 2 ^ 200 := Nat.lt_trans (val_lt hn2 _ hcat) (by rw [hclen]; exact pow_58b hn58 (by omega))
  have hpadC : pad n (2 * l.length) (val n (l ++ rst n l)) = l ++ rst n l := by
    have h := pad_val hn2 hcat
    rwa [hclen] at h
  have hvr := val_rst hn2 l hlt
  have htc : txt al l ++ txt al (rst n l) = txt al (l ++ rst n l) := by unfold txt; rw [List.map_append]
  refine Z.ret (bad := []) (p := .bool true) (Ev.cast (Ev.boolop (.and (b := true) (c := true) (Ev.cast (Ev.cmp (EvF.ev (EvF.fill N3 (by omega) C (m := val n (l ++ rst n l)) (p := 2 * l.length) (al := al) rfl
      (Ev.cast (Ev.bin (Ev.bin (Ev.name0 C rfl) Ev.cInt (fun b hb => by cases hb) BinR.add) (Ev.name0 C rfl) (fun b hb => by cases hb) (BinR.mul (sm_nat (n := val n l + 1) (k := 121) (by omega) (by omega)) (sm_nat (k := 120) (by omega) (by omega)))) (by rw [← hwh, Int.natCast_mul]; rfl))
      (Ev.cast (Ev.bin Ev.cInt (Ev.name0 C rfl) (fun b hb => by cases hb) (BinR.mul (by unfold Sm; decide) (sm_nat (k := 10) (by omega) (by omega)))) (by rw [Int.natCast_mul]; rfl)) (Ev.name0 C rfl) rfl rfl rfl hal (by omega) (hm1000 _ (Nat.lt_trans hcv (Nat.pow_lt_pow_right (by omega) (by omega)))) (by omega) (r := l ++ rst n l) (by rw [hall]; exact hpadC)) (fun b hb => by cases hb))
    (Ev.cast (Ev.bin (Ev.name0 C rfl) (Ev.name0 C rfl) (fun b hb => by cases hb) (BinR.cat (by rw [txt_len, txt_len, hrlen]; omega))) (congrArg PV.bytes htc)) CmpR.eqB rfl) (by rw [beq_self_eq_true])) fun _ =>
    .one (Ev.cast (Ev.cmp (Ev.cast (EvF.ev (EvF.decode N C (v := txt al (rst n l)) (al := al) rfl (Ev.name0 C rfl) (Ev.name0 C rfl) rfl rfl hal (by omega) hnd hsp (txt_mem hrs') (hdlim _ (by rw [txt_len, hrlen]; omega))) (fun b hb => by cases hb)) (by rw [dec_txt hnd hrs', hall])) (Ev.bin (Ev.name0 C rfl) (Ev.name0 C rfl) (fun b hb => by cases hb) BinR.sub) CmpR.eq rfl) (by
      rw [show ((n ^ l.length - 1 : Nat) : Int) - ((val n l : Nat) : Int) = ((val n (rst n l) : Nat) : Int) by omega, beq_self_eq_true])))) rfl) fun v s' k r => ?_
  obtain rfl : v = .bool true := r
  exact hret s' (S.out.trans k)

theorem law3b {fa Lc : Addr} {dV kV doc pm cdv ct : Value} {an : Option Addr} {s₀ s : Shared} {E : Value → Shared → Prop} {Φ : Flow → Shared → Prop} {is ds : List Int} {dr : Int → Int} {al : List UInt8} {n : Nat} {l : List Nat}
    (hroom : A.depth + 3 < recursionLimit) (F : Fx prog w A (callEnvC (mkF PW 9 dV kV doc pm cdv ct an) Lc fa) s₀ D)
    (S : St prog w (callEnvC (mkF PW 9 dV kV doc pm cdv ct an) Lc fa) s₀ [] [("worths", .list (l.map (fun (d : Nat) => (d : Int)))), ("signs", .bytes al), ("size", .int n), ("draw", .list ds), ("script", .ilist is)] s) (N : Fns prog w A D) (N3 : Fns3 prog w D)
    (hn2 : 2 ≤ n) (hn58 : n ≤ 58) (hall : al.length = n) (hnd : al.Nodup) (hsp : ∀ c ∈ al, 33 ≤ c.toNat ∧ c.toNat ≤ 126) (hd14 : ds[14]? = some (dr 14)) (hdl : ds.length = 15) (hlo : ∀ k, 0 ≤ dr k)
    (hlt : ∀ d ∈ l, d < n) (hl1 : 1 ≤ l.length) (hl12 : l.length ≤ 12)
    (hret : ∀ s', Kp s₀ s' → Φ (.ret (.bool true)) s') :
    wpAny (model prog w) A (execs (List.drop 5 (bodyOf PW 9)) (callEnvC (mkF PW 9 dV kV doc pm cdv ct an) Lc fa)) Φ E s := by
  have C := S.cx F rfl
  have hlm : (l.map (fun (d : Nat) => (d : Int))).length = l.length := List.length_map _
  obtain ⟨d0, r, rfl⟩ : ∃ x r, l = x :: r := by
    cases l with
    | nil => simp at hl1
    | cons x r => exact ⟨x, r, rfl⟩
  -- the least of them
  obtain ⟨m, hm, hmle⟩ : ∃ m ∈ d0 :: r, ∀ d ∈ d0 :: r, m ≤ d := by
    clear S C hlt hl1 hl12 hlm
    induction r generalizing d0 with
    | nil => exact ⟨d0, List.mem_cons_self .., fun d hd => by rw [List.mem_singleton.mp hd]; exact Nat.le_refl _⟩
    | cons x r ih =>
      obtain ⟨m, hm, hle⟩ := ih x
      by_cases h : d0 ≤ m
      · refine ⟨d0, List.mem_cons_self .., fun d hd => ?_⟩
        rcases List.mem_cons.mp hd with rfl | hd
        · exact Nat.le_refl _
        · exact Nat.le_trans h (hle d hd)
      · refine ⟨m, List.mem_cons_of_mem _ hm, fun d hd => ?_⟩
        rcases List.mem_cons.mp hd with rfl | hd
        · omega
        · exact hle d hd
  refine Z.ite S (b := decide ((m : Int) = (n : Int) - 1)) (Tr.cmp (Ev.callB C rfl N3.min rfl (.cons (Ev.name0 C rfl) rfl .nil) (fun b hb => by cases hb) (CallR.min F.hh (m := (m : Int)) (List.mem_map.mpr ⟨m, hm, rfl⟩) (fun j hj => by obtain ⟨d, hd, rfl⟩ := List.mem_map.mp hj; have := hmle d hd; omega))) (Ev.bin (Ev.name0 C rfl) Ev.cInt (fun b hb => by cases hb) BinR.sub) CmpR.eq) (fun hb s S => ?_) (fun hb s S => Z.nil ?_)
  · have c1 := cut_from ((d0 :: r).map (fun (d : Nat) => (d : Int))) 1
    refine Z.assign F S (p := .list ((0 :: r).map (fun (d : Nat) => (d : Int)))) (fun s' bad k hb => ?_) (by first | exact .inl rfl | exact .inr ⟨rfl, rfl⟩) rfl fun s S => Z.nil ?_
    · have C := (S.cx F rfl).up k
      exact Ev.bin (Ev.list (.cons Ev.cInt rfl .nil) (by decide) (fun b hb => by cases hb)) (Ev.cast (Ev.cutL (Ev.name0 C rfl) (.some Ev.cInt) .none (by omega) (fun b hb => by cases hb)) (congrArg PV.list c1)) hb (BinR.catL (by simp at hl12 ⊢; omega))
    · exact law3c (dr := dr) hroom F (S.re _ ⟨rfl, rfl, rfl, rfl, rfl, trivial⟩) N N3 hn2 hn58 hall hnd hsp hd14 hdl hlo (fun d hd => by
        rcases List.mem_cons.mp hd with rfl | hd
        · omega
        · exact hlt d (List.mem_cons_of_mem _ hd)) hl1 hl12 ⟨0, List.mem_cons_self .., by omega⟩ hret
  · exact law3c (dr := dr) hroom F S N N3 hn2 hn58 hall hnd hsp hd14 hdl hlo hlt hl1 hl12 ⟨m, hm, fun e => by
      have := of_decide_eq_false hb
      have := hlt m hm
      omega⟩ hret
end
end B58

namespace B58

theorem many_cast (t : Nat) (l : List Nat) : (List.replicate t (l.map (fun (d : Nat) => (d : Int)))).flatten = (many t l).map (fun (d : Nat) => (d : Int)) := by
  unfold many
  rw [List.map_flatten, List.map_replicate]
theorem many_mem {t : Nat} {l : List Nat} {d : Nat} (h : d ∈ many t l) : d ∈ l := by
  unfold many at h
  obtain ⟨r, hr, hd⟩ := List.mem_flatten.mp h
  rwa [(List.mem_replicate.mp hr).2] at hd

section
variable {prog : Program} {w : World} {A : Around} {D : Dt}
set_option maxHeartbeats 2000000

theorem law3 {fa Lc : Addr} {dV kV doc pm cdv ct : Value} {an : Option Addr} {s₀ s : Shared} {E : Value → Shared → Prop} {Φ : Flow → Shared → Prop} {is : List Int} {vs : List Value} {nT T : Nat} {rest : List Int} (hz : is.length ≤ 63)
    (hroom : A.depth + 3 < recursionLimit)
    (F : Fx prog w A (callEnvC (mkF PW 9 dV kV doc pm cdv ct an) Lc fa) s₀ D) (S : St prog w (callEnvC (mkF PW 9 dV kV doc pm cdv ct an) Lc fa) s₀ [] [("script", .ilist is)] s) (N : Fns prog w A D) (N3 : Fns3 prog w D)
    (hrest : D.names.lookup (Str.ofString "_law_rest") = some (.ref T)) (hT : (T, ({ cls := .type "tuple", data := .seq vs.toArray nT } : Obj)) ∈ D.objs) (hI : IntsAre vs rest) (hrl : rest.length = 15)
    (hret : ∀ s', Kp s₀ s' → Φ (.ret (.bool true)) s') :
    wpAny (model prog w) A (execs (bodyOf PW 9) (callEnvC (mkF PW 9 dV kV doc pm cdv ct an) Lc fa)) Φ E s := by
  have C := S.cx F rfl
  refine Z.assign F S (p := .list ((rng 0 1 15).map (drw is rest))) (fun s' bad k hb => Ev.cast (Ev.comp (C.up k) [("script", .ilist is)] (items := rng 0 1 15) (pz := fun _ => true) (g := drw is rest) rfl ⟨⟨rfl, rfl, rfl, rfl, rfl⟩, trivial⟩ (by decide) rfl (by decide) rfl rfl (fun _ => rfl)
    (Ev.callT (C.up k) rfl N.range rfl (.cons Ev.cInt rfl .nil) (fun b hb => by cases hb) CallR.range1) (SrcR.range F.hh rfl rfl) (by rw [rng_len]; decide) hb (fun n hn K s₃ k₃ Cc => ⟨.none, fun _ => ?_⟩)) (by rw [filter_true])) (.inr ⟨rfl, rfl⟩) rfl fun s S => ?_
  · have hr : 0 ≤ n ∧ n < 15 := by
      rw [rng_one] at hn
      obtain ⟨i, hi, rfl⟩ := List.mem_map.mp hn
      have := List.mem_range.mp hi
      omega
    exact Ev.draw Cc rfl rfl rfl rfl N.len hrest hT hI hr.1 (by rw [hrl]; exact hr.2) hz (by omega)
  generalize hds : drw is rest = dr at S
  have hlo : ∀ k, 0 ≤ dr k := fun k => hds ▸ drw_lo _ _ k
  clear hds
  have hd0 : ((rng 0 1 15).map dr)[0]? = some (dr 0) := drs_get (by omega)
  have hd1 : ((rng 0 1 15).map dr)[1]? = some (dr 1) := drs_get (by omega)
  have hd2 : ((rng 0 1 15).map dr)[2]? = some (dr 2) := drs_get (by omega)
  have hd14 : ((rng 0 1 15).map dr)[14]? = some (dr 14) := drs_get (by omega)
  have hdl : ((rng 0 1 15).map dr).length = 15 := by rw [List.length_map, rng_len]
  generalize (rng 0 1 15).map dr = ds at S hd0 hd1 hd2 hd14 hdl
  have hdl' : ds.length < 2 ^ 60 := by omega
  -- size, part, times
  obtain ⟨n, hn, hn2, hn58⟩ : ∃ n : Nat, 2 + (dr 0).fmod 57 = n ∧ 2 ≤ n ∧ n ≤ 58 := by
    have a := Int.fmod_nonneg_of_pos (dr 0) (b := 57) (by omega); have b := Int.fmod_lt_of_pos (dr 0) (b := 57) (by omega)
    exact ⟨(2 + (dr 0).fmod 57).toNat, by omega, by omega, by omega⟩
  obtain ⟨L, hL, hL1, hL4⟩ : ∃ n : Nat, 1 + (dr 2).fmod 4 = n ∧ 1 ≤ n ∧ n ≤ 4 := by
    have a := Int.fmod_nonneg_of_pos (dr 2) (b := 4) (by omega); have b := Int.fmod_lt_of_pos (dr 2) (b := 4) (by omega)
    exact ⟨(1 + (dr 2).fmod 4).toNat, by omega, by omega, by omega⟩
  obtain ⟨q, hq, hq1, hq3⟩ : ∃ n : Nat, 1 + ((dr 2).fdiv 4).fmod 3 = n ∧ 1 ≤ n ∧ n ≤ 3 := by
    have a := Int.fmod_nonneg_of_pos ((dr 2).fdiv 4) (b := 3) (by omega); have b := Int.fmod_lt_of_pos ((dr 2).fdiv 4) (b := 3) (by omega)
    exact ⟨(1 + ((dr 2).fdiv 4).fmod 3).toNat, by omega, by omega, by omega⟩
  have C := S.cx F rfl
  refine Z.tup3 F S (p := .int n) (q := .int L) (r := .int q) (.cons (EvF.of (Ev.cast (Ev.bin Ev.cInt (Ev.bin (Ev.drawn (i := 0) C rfl hdl' hd0) Ev.cInt (fun b hb => by cases hb) (BinR.mod (by decide))) (fun b hb => by cases hb) BinR.add) (by rw [hn])) rfl) rfl
    (.cons (EvF.of (Ev.cast (Ev.bin Ev.cInt (Ev.bin (Ev.drawn (i := 2) C rfl hdl' hd2) Ev.cInt (fun b hb => by cases hb) (BinR.mod (by decide))) (fun b hb => by cases hb) BinR.add) (by rw [hL])) rfl) rfl
    (.cons (EvF.of (Ev.cast (Ev.bin Ev.cInt (Ev.bin (Ev.bin (Ev.drawn (i := 2) C rfl hdl' hd2) Ev.cInt (fun b hb => by cases hb) (BinR.fdiv (by decide) (by unfold Sm; decide))) Ev.cInt (fun b hb => by cases hb) (BinR.mod (by decide))) (fun b hb => by cases hb) BinR.add) (by rw [hq])) rfl) rfl .nil)))
    (by first | exact .inl rfl | exact .inr ⟨rfl, rfl⟩) (by first | exact .inl rfl | exact .inr ⟨rfl, rfl⟩) (by first | exact .inl rfl | exact .inr ⟨rfl, rfl⟩) rfl (by first | exact .inr rfl | exact .inl rfl) rfl rfl rfl fun s S => ?_
  clear hn hL hq
  have C := S.cx F rfl
  -- signs
  have hsm1 : Sm (1 + (dr 1).fmod 23 * 2) := by
    have a := Int.fmod_nonneg_of_pos (dr 1) (b := 23) (by omega); have b := Int.fmod_lt_of_pos (dr 1) (b := 23) (by omega)
    exact sm_of (Nat.lt_of_lt_of_le (show (1 + (dr 1).fmod 23 * 2).natAbs < 2 ^ 20 by omega) (Nat.pow_le_pow_right (by omega) (by omega)))
  have hsm2 : Sm ((dr 1).fmod 23) := by
    have a := Int.fmod_nonneg_of_pos (dr 1) (b := 23) (by omega); have b := Int.fmod_lt_of_pos (dr 1) (b := 23) (by omega)
    exact sm_of (Nat.lt_of_lt_of_le (show ((dr 1).fmod 23).natAbs < 2 ^ 20 by omega) (Nat.pow_le_pow_right (by omega) (by omega)))
  refine Z.assign F S (p := .bytes (alS (dr 1) n)) (EvF.of (Ev.cast (Ev.callT C rfl N.bytes rfl (.cons (Ev.comp C [("draw", .list ds)] (items := rng 0 1 n) (pz := fun _ => true) (g := sgn (dr 1)) rfl ⟨⟨rfl, rfl, rfl, rfl, rfl⟩, trivial⟩ (by decide) rfl (by decide) rfl rfl (fun _ => rfl)
    (Ev.callT C rfl N.range rfl (.cons (Ev.name0 C rfl) rfl .nil) (fun b hb => by cases hb) CallR.range1) (SrcR.range F.hh (small_one (by omega) (by omega) (by omega) (by omega)) (by rw [size_up _ _ (by omega)]; omega)) (by rw [rng_len]; omega) (fun b hb => by cases hb) (fun k hk K s₃ k₃ Cc => ⟨.none, fun _ => ?_⟩)) rfl .nil) (fun b hb => by cases hb)
    (CallR.bytes F.hh (fun m hm => by rw [filter_true] at hm; obtain ⟨k, _, rfl⟩ := List.mem_map.mp hm; have := sgn_in (dr 1) k; omega) (by rw [filter_true, List.length_map, rng_len]; omega))) (by rw [filter_true]; rfl)) rfl) (.inr ⟨rfl, rfl⟩) rfl fun s S => ?_
  · have hk' : Sm k := by
      rw [rng_one] at hk
      obtain ⟨i, hi, rfl⟩ := List.mem_map.mp hk
      have := List.mem_range.mp hi
      exact sm_nat (k := 10) (by omega) (by omega)
    exact Ev.bin Ev.cInt (Ev.bin (Ev.bin (Ev.drawn (i := 1) Cc rfl hdl' hd1) (Ev.bin (Ev.bin Ev.cInt (Ev.bin (Ev.bin (Ev.drawn (i := 1) Cc rfl hdl' hd1) Ev.cInt (fun b hb => by cases hb) (BinR.mod (by decide))) Ev.cInt (fun b hb => by cases hb) (BinR.mul hsm2 (by unfold Sm; decide))) (fun b hb => by cases hb) BinR.add) (Ev.name0 Cc rfl) (fun b hb => by cases hb) (BinR.mul hsm1 hk')) (fun b hb => by cases hb) BinR.add) Ev.cInt (fun b hb => by cases hb) (BinR.mod (by decide))) (fun b hb => by cases hb) BinR.add
  have hall := alS_len (dr 1) n
  obtain ⟨hnd, hsp⟩ := alS_ok (dr 1) hn58
  generalize alS (dr 1) n = al at S hall hnd hsp
  have C := S.cx F rfl
  -- worths
  have hcl : ∀ k : Nat, k ≤ 12 → (cut ds (some (3 : Int)) (some (3 + (k : Int)))).length = k := fun k hk => by
    rw [show (3 : Int) = ((3 : Nat) : Int) from rfl, show ((3 : Nat) : Int) + (k : Int) = ((3 + k : Nat) : Int) by omega, cut_both _ (by omega), List.length_drop, List.length_take]; omega
  obtain ⟨l, hl, hlt, hll⟩ := nat_digits (n := n) (by omega) (cut ds (some (3 : Int)) (some (3 + (L : Int))))
  rw [hcl L (by omega)] at hll
  have hlq : 1 ≤ q * L ∧ q * L ≤ 12 := ⟨Nat.mul_pos hq1 hL1, Nat.mul_le_mul hq3 hL4⟩
  refine Z.assign F S (p := .list ((many q l).map (fun (d : Nat) => (d : Int)))) (fun s' bad k hb => Ev.cast (Ev.bin (Ev.cast (Ev.comp (C.up k) [("size", .int n)] (items := cut ds (some (3 : Int)) (some (3 + (L : Int)))) (pz := fun _ => true) (g := fun a => a.fmod n) rfl ⟨⟨rfl, rfl, rfl, rfl, rfl⟩, trivial⟩ (by decide) rfl (by decide) rfl rfl (fun _ => rfl)
    (Ev.cutL (Ev.name0 (C.up k) rfl) (.some Ev.cInt) (.some (Ev.bin Ev.cInt (Ev.name0 (C.up k) rfl) (fun b hb => by cases hb) BinR.add)) (by omega) (fun b hb => by cases hb)) (SrcR.list F.hh) (by rw [hcl L (by omega)]; omega) (fun b hb => by cases hb) (fun m hm K s₃ k₃ Cc => ⟨.none, fun _ => ?_⟩)) (by rw [filter_true, hl])) (Ev.name0 (C.up k) rfl) hb (BinR.repL (by omega) (by omega) (by rw [List.length_map, hll, Int.toNat_natCast, Nat.mul_comm]; omega))) (by rw [Int.toNat_natCast, many_cast])) (by first | exact .inl rfl | exact .inr ⟨rfl, rfl⟩) rfl fun s S => ?_
  · exact Ev.bin (Ev.name0 Cc rfl) (Ev.name0 Cc rfl) (fun b hb => by cases hb) (BinR.mod (by omega))
  have C := S.cx F rfl
  obtain ⟨l2, hl2, hlt2, hll2⟩ := nat_digits (n := n) (by omega) (cut ds (some (3 : Int)) (some (3 + ((L * q : Nat) : Int))))
  have hlq' : L * q ≤ 12 ∧ 1 ≤ L * q := by rw [Nat.mul_comm]; exact ⟨hlq.2, hlq.1⟩
  rw [hcl (L * q) hlq'.1] at hll2
  refine Z.ite S (b := decide ((dr 2).fmod 5 = 0)) (Tr.cmp (Ev.bin (Ev.drawn (i := 2) C rfl hdl' hd2) Ev.cInt (fun b hb => by cases hb) (BinR.mod (by decide))) Ev.cInt CmpR.eq) (fun hb s S => ?_) (fun hb s S => Z.nil ?_)
  · have C := S.cx F rfl
    refine Z.comp F S C [("size", .int n)] (items := cut ds (some (3 : Int)) (some (3 + ((L * q : Nat) : Int)))) (pz := fun _ => true) (g := fun a => a.fmod n) rfl rfl rfl ⟨⟨rfl, rfl, rfl, rfl, rfl⟩, trivial⟩ (by decide) rfl (by decide) rfl rfl (fun _ => rfl)
      (Ev.cutL (Ev.name0 C rfl) (.some Ev.cInt) (.some (Ev.bin Ev.cInt (Ev.cast (Ev.bin (Ev.name0 C rfl) (Ev.name0 C rfl) (fun b hb => by cases hb) (BinR.mul (sm_nat (k := 10) (by omega) (by omega)) (sm_nat (k := 10) (by omega) (by omega)))) (by rw [Int.natCast_mul])) (fun b hb => by cases hb) BinR.add)) (by omega) (fun b hb => by cases hb)) (SrcR.list F.hh) (by rw [hcl _ hlq'.1]; omega) (fun m hm K s₃ k₃ Cc => ⟨.none, fun _ => ?_⟩) fun s S => Z.nil ?_
    · exact Ev.bin (Ev.name0 Cc rfl) (Ev.name0 Cc rfl) (fun b hb => by cases hb) (BinR.mod (by omega))
    · rw [filter_true, hl2] at S
      exact law3b (dr := dr) hroom F (S.re _ ⟨rfl, rfl, rfl, rfl, rfl, trivial⟩) N N3 hn2 hn58 hall hnd hsp hd14 hdl hlo hlt2 (by omega) (by omega) hret
  · exact law3b (dr := dr) hroom F (S.re _ ⟨rfl, rfl, rfl, rfl, rfl, trivial⟩) N N3 hn2 hn58 hall hnd hsp hd14 hdl hlo (fun d hd => hlt d (many_mem hd)) (by rw [many_len, hll]; exact hlq.1) (by rw [many_len, hll]; exact hlq.2) hret
end
end B58

namespace B58
set_option maxHeartbeats 8000000
open PySem.W
open_top hd for PySem.Challenge.rw_fe0037_03
end B58

namespace B58
set_option maxHeartbeats 8000000
open PySem.W

def fo (i : Nat) (dV kV : Value) (cd : Addr) (pm : Value) : Obj := { cls := .type "function", data := .func (mkF PW i dV kV .none pm (.ref cd) .none none) }
def tup (vs : List Value) : Obj := { cls := .type "tuple", data := .seq vs.toArray 0 }
def alph : List UInt8 := [49, 50, 51, 52, 53, 54, 55, 56, 57, 65, 66, 67, 68, 69, 70, 71, 72, 74, 75, 76, 77, 78, 80, 81, 82, 83, 84, 85, 86, 87, 88, 89, 90, 97, 98, 99, 100, 101, 102, 103, 104, 105, 106, 107, 109, 110, 111, 112, 113, 114, 115, 116, 117, 118, 119, 120, 121, 122]
def base : Value := .str (Str.ofString "base58") 187
def base2 : Value := .str (Str.ofString "law_fe0037_03") 231
def restV : List Value := [.int 8 233, .int 5 234, .int 31 235, .int 4 236, .int 4 237, .int 7 238, .int 1 239, .int 9 240, .int 0 241, .int 3 242, .int 2 243, .int 8 244, .int 5 245, .int 6 246, .int 17 247]
def restI : List Int := [8, 5, 31, 4, 4, 7, 1, 9, 0, 3, 2, 8, 5, 6, 17]
theorem rest_are : IntsAre restV restI := .cons _ _ (.cons _ _ (.cons _ _ (.cons _ _ (.cons _ _ (.cons _ _ (.cons _ _ (.cons _ _ (.cons _ _ (.cons _ _ (.cons _ _ (.cons _ _ (.cons _ _ (.cons _ _ (.cons _ _ (.nil)))))))))))))))

/-- an object of the top's heap, as it lies there -/
noncomputable def atH (w : World) (a : Addr) : Addr × Obj := (a, ((hd.heap_39 w.params).lookup a).getD default)
noncomputable def DT (w : World) : Dt where
  names := [(nameOf PW 2, .ref 21), (nameOf PW 3, .ref 29), (nameOf PW 4, .ref 34), (nameOf PW 5, .ref 43), (Str.ofString "_law_rest", .ref 44), (nameOf PW 8, .ref 51), (Str.ofString "len", .builtin "len"), (Str.ofString "divmod", .builtin "divmod"), (Str.ofString "isinstance", .builtin "isinstance"), (Str.ofString "str", .type "str"), (Str.ofString "enumerate", .type "enumerate"), (Str.ofString "range", .type "range"), (Str.ofString "bytes", .type "bytes"), (Str.ofString "min", .builtin "min")]
  objs := [(21, fo 2 .none .none 20 base), (29, fo 3 (.ref 22) .none 28 base), (34, fo 4 .none .none 33 base), (43, fo 5 (.ref 35) (.ref 36) 42 base), (22, tup [.bool true, .bytes alph.toArray 189]), (44, tup restV), (51, fo 8 .none .none 50 base2), atH w 20, atH w 28, atH w 33, atH w 42, atH w 35, atH w 36, atH w 50]

theorem nmsT (w : World) : Nms (hd.heap_39 w.params) (DT w).names :=
  .g (by kernel_rfl) (.g (by kernel_rfl) (.g (by kernel_rfl) (.g (by kernel_rfl) (.g (by kernel_rfl) (.g (by kernel_rfl) (.b (by kernel_rfl) (by decide) (by kernel_rfl) (.b (by kernel_rfl) (by decide) (by kernel_rfl) (.b (by kernel_rfl) (by decide) (by kernel_rfl) (.b (by kernel_rfl) (by decide) (by kernel_rfl) (.b (by kernel_rfl) (by decide) (by kernel_rfl) (.b (by kernel_rfl) (by decide) (by kernel_rfl) (.b (by kernel_rfl) (by decide) (by kernel_rfl) (.b (by kernel_rfl) (by decide) (by kernel_rfl) (.nil))))))))))))))
theorem objsT (w : World) : ∀ p ∈ (DT w).objs, (hd.heap_39 w.params).lookup p.1 = some p.2 :=
  List.forall_mem_cons.mpr ⟨by kernel_rfl, List.forall_mem_cons.mpr ⟨by kernel_rfl, List.forall_mem_cons.mpr ⟨by kernel_rfl, List.forall_mem_cons.mpr ⟨by kernel_rfl, List.forall_mem_cons.mpr ⟨by kernel_rfl, List.forall_mem_cons.mpr ⟨by kernel_rfl, List.forall_mem_cons.mpr ⟨by kernel_rfl, List.forall_mem_cons.mpr ⟨by kernel_rfl, List.forall_mem_cons.mpr ⟨by kernel_rfl, List.forall_mem_cons.mpr ⟨by kernel_rfl, List.forall_mem_cons.mpr ⟨by kernel_rfl, List.forall_mem_cons.mpr ⟨by kernel_rfl, List.forall_mem_cons.mpr ⟨by kernel_rfl, List.forall_mem_cons.mpr ⟨by kernel_rfl, fun _ h => nomatch h⟩⟩⟩⟩⟩⟩⟩⟩⟩⟩⟩⟩⟩⟩

theorem look_mem {β : Type} {a : Addr} {o : β} : ∀ {K : List (Addr × β)}, K.lookup a = some o → (a, o) ∈ K
  | (b, u) :: r, e => by
    rw [List.lookup_cons] at e
    cases h : a == b with
    | true => rw [h] at e; cases e; rw [beq_iff_eq.mp h]; exact List.mem_cons_self ..
    | false => rw [h] at e; exact List.mem_cons_of_mem _ (look_mem e)
theorem GF.inK {h : Heap} {D : Dt} (G : GF h D) {K : PySem.W.Frag} (hK : ∀ p ∈ K, p ∈ D.objs) : K.In h := fun a o e => G.objs (a, o) (hK (a, o) (look_mem e))
theorem GF.code {h : Heap} {D : Dt} (G : GF h D) {c : Addr} {q : Str} {p : Addr × Obj} (hp : p ∈ D.objs) (e : codeIn [p] (.ref c) q = true) : h.CodeRec (.ref c) q :=
  codeRec_of (G.inK (K := [p]) (fun r hr => by rw [List.mem_singleton.mp hr]; exact hp)) e

theorem fnsT {prog : Program} {w : World} {A : Around} (hroom : A.depth + 1 < recursionLimit) (hh : A.handled = none) : Fns prog w A (DT w) where
  len := rfl
  range := rfl
  bytes := rfl
  enc := ⟨29, _, _, rfl, (List.mem_of_getElem? (i := 1) rfl), rfl, fun n d al h1 h2 h3 h4 =>
    enc_fn (by omega) hh (List.mem_of_getElem? (i := 1) rfl) (fun h G => G.code (p := atH w 28) (List.mem_of_getElem? (i := 8) rfl) (by kernel_rfl)) (T := 22) (d1 := .bool true) (d2 := .bytes alph.toArray 189) (nT := 0) (List.mem_of_getElem? (i := 4) rfl) rfl rfl h1 h2 h3 h4⟩
  dec := ⟨43, _, _, rfl, (List.mem_of_getElem? (i := 3) rfl), rfl, fun v al h1 h2 h3 h4 h5 h6 =>
    dec_fn hroom hh (List.mem_of_getElem? (i := 3) rfl) (fun h G => G.code (p := atH w 42) (List.mem_of_getElem? (i := 10) rfl) (by kernel_rfl))
      (fun s x y G => kp_binds (K := [atH w 35, atH w 36]) (G.inK (fun r hr => by
        rcases List.mem_cons.mp hr with rfl | hr
        · exact (List.mem_of_getElem? (i := 11) rfl)
        · rw [List.mem_singleton.mp hr]; exact (List.mem_of_getElem? (i := 12) rfl))) (fun _ => rfl))
      (List.mem_of_getElem? (i := 0) rfl) (fun h G => G.code (p := atH w 20) (List.mem_of_getElem? (i := 7) rfl) (by kernel_rfl)) rfl (List.mem_of_getElem? (i := 2) rfl) (fun h G => G.code (p := atH w 33) (List.mem_of_getElem? (i := 9) rfl) (by kernel_rfl)) rfl rfl rfl rfl rfl h1 h2 h3 h4 h5 h6⟩

end B58

namespace B58
set_option maxHeartbeats 8000000
open PySem.W

theorem fns3 {prog : Program} {w : World} : Fns3 prog w (DT w) where
  min := rfl
  filled := ⟨51, _, _, rfl, List.mem_of_getElem? (i := 6) rfl, rfl, fun A al m p h1 h2 h3 h4 h5 h6 =>
    filled_fn h1 h2 (fun A' a b => fnsT a b) (List.mem_of_getElem? (i := 6) rfl) (fun h G => G.code (p := atH w 50) (List.mem_of_getElem? (i := 13) rfl) (by kernel_rfl)) rfl h3 h4 h5 h6⟩

theorem law_call {prog : Program} {w : World} {s₁ : Shared} {mg mb : Str → Option Value} (KX : (hd.heap_39 w.params).In s₁.heap) (g : s₁.heap.Ns mainGlobals mg) (b : s₁.heap.Ns builtinsNs mb) (nl : s₁.heap.NoLimit) (hb : ∀ x : Str, x ≠ "__name__" → mb x = bootBuiltins x)
    {fa : Addr} {o : Obj} {pm doc cd : Value} (ho : s₁.heap.get? fa = some o) (hd : o.data = .func (mkF PW 9 .none .none doc pm cd .none none)) (hcd : s₁.heap.CodeRec cd (nameOf PW 9))
    {l : Addr} {vs : List Value} {is : List Int} (hL : s₁.heap.IsList l vs.toArray) (hI : IntsAre vs is) (hz : is.length ≤ 63) {R : Result → Shared → Prop} (hR : ∀ s', Kp s₁ s' → R (.ok (.ret (.bool true))) s') :
    codeAny (model prog w) callerA (.call (.ref fa) ⟨[.ref l], []⟩) R s₁ := by
  have G : GF s₁.heap (DT w) := GF.ofK KX g b nl hb (nmsT w) (objsT w)
  refine code_enter (D := DT w) (loc := [("script", .ilist is)]) (binds := [("script", .ref l)]) (by decide) rfl G ho hd rfl rfl hcd (BindsTo.of_eq rfl) (.cons ⟨l, vs, rfl, hL, hI⟩ rfl .nil) (show ([("script" : Str)]).Nodup by decide) (fun q hq => ?_) rfl rfl rfl rfl rfl fun s₀ E Φ F S hret => ?_
  · rw [List.mem_singleton.mp hq]; exact .inr ⟨rfl, rfl⟩
  · exact law3 (T := 44) (vs := restV) (nT := 0) (rest := restI) hz (show callerA.depth + 1 + 3 < recursionLimit by decide) F S (fnsT (show callerA.depth + 1 + 1 < recursionLimit by decide) rfl) fns3 rfl (List.mem_of_getElem? (i := 5) rfl) rest_are rfl fun s' k => hret _ s' (hR s' k)

theorem told : PySem.Challenge.rw_fe0037_03.Holds := hd (by 
  w_strict (
   k_fill
   intro w s₀ s₁ mg mb G Y fa o pm cd doc dV kV ho hd hcd hD hmg hg args vals as hpre hlay hrd hwl hlo
   have KX := kIn_of Y
   refine Ground.open G ?_
   intro T B D TE TW
   try (refine guard_noD D (by decide +kernel) ?_; clear D)
   wrow_args hpre hlay hrd hwl hlo
   all_goals (
    first | refine callC_kw (enter_call ?_) | refine enter_call ?_ | refine callC_kw (enter_callW ?_) | refine enter_callW ?_ | w_how
    w_top on
    try refine codeAny_mono ?_ (fun _ _ g => GoodW.toG g))
   rcases hD.pos with ⟨_, rfl⟩ | ⟨hne, _⟩
   case inr => exact absurd rfl hne
   rcases hD.kw with ⟨_, rfl⟩ | ⟨hne, _⟩
   case inr => exact absurd rfl hne
   refine law_call KX T.g T.b T.nolimit T.builtins ho hd hcd (by assumption) (by assumption) (by omega) fun s' k => ?_
   obtain ⟨h', tk, rfl, hk⟩ := k.out
   exact ⟨.inl ⟨.bool true, .bool true, [], rfl, raisesW_false (by wrow_none_raised), .bool true, (by kc_post), unshared_nil⟩, hk, rfl, hg⟩))
end B58

theorem PySem.Challenge.cw_fe0037_03_holds : PySem.Challenge.rw_fe0037_03.Holds :=
  B58.told
