import PyProof.Rows.All
import Wide.All
import OpenK.AllK
import Wide.FinOn
import PySem.Challenge.RW_qh0018_01
set_option Elab.async false

section
open PySem PySem.W PyProof.Rows
namespace Mine
set_option linter.unusedVariables false

abbrev XS := Addr → Prop
abbrev Keep (h h' : Heap) : Prop := ∀ b o, h.get? b = some o → h'.get? b = some o
/-- what holds off X in h stands off X' in h' -/
def Kx (X X' : XS) (h h' : Heap) : Prop := ∀ b o, ¬ X b → h.get? b = some o → ¬ X' b ∧ h'.get? b = some o

theorem Kx.of_keep {X : XS} {h h' : Heap} (k : Keep h h') : Kx X X h h' := fun b o n e => ⟨n, k b o e⟩

inductive All2 {α β : Type} (R : α → β → Prop) : List α → List β → Prop
  | nil : All2 R [] []
  | cons {a b as bs} : R a b → All2 R as bs → All2 R (a :: as) (b :: bs)

theorem All2.imp {α β : Type} {R S : α → β → Prop} (f : ∀ a b, R a b → S a b) {as : List α} {bs : List β} (h : All2 R as bs) : All2 S as bs := by
  induction h with
  | nil => exact .nil
  | cons h _ ih => exact .cons (f _ _ h) ih
theorem All2.length {α β : Type} {R : α → β → Prop} {as : List α} {bs : List β} (h : All2 R as bs) : as.length = bs.length := by
  induction h with
  | nil => rfl
  | cons _ _ ih => simp [ih]
theorem All2.append {α β : Type} {R : α → β → Prop} {as as' : List α} {bs bs' : List β} (h : All2 R as bs) (h' : All2 R as' bs') : All2 R (as ++ as') (bs ++ bs') := by
  induction h with
  | nil => exact h'
  | cons h _ ih => exact .cons h ih
theorem All2.get {α β : Type} {R : α → β → Prop} {as : List α} {bs : List β} (h : All2 R as bs) {i : Nat} {a : α} (e : as[i]? = some a) : ∃ b, bs[i]? = some b ∧ R a b := by
  induction h generalizing i with
  | nil => simp at e
  | cons h _ ih =>
    cases i with
    | zero => simp at e; subst e; exact ⟨_, by simp, h⟩
    | succ i => simp at e; obtain ⟨b, hb, hr⟩ := ih e; exact ⟨b, by simpa using hb, hr⟩
theorem All2.get' {α β : Type} {R : α → β → Prop} {as : List α} {bs : List β} (h : All2 R as bs) {i : Nat} {b : β} (e : bs[i]? = some b) : ∃ a, as[i]? = some a ∧ R a b := by
  induction h generalizing i with
  | nil => simp at e
  | cons h _ ih =>
    cases i with
    | zero => simp at e; subst e; exact ⟨_, by simp, h⟩
    | succ i => simp at e; obtain ⟨b, hb, hr⟩ := ih e; exact ⟨b, by simpa using hb, hr⟩

structure Bd where
  rel : XS → Heap → Value → Prop
  mono : ∀ {X X' : XS} {h h' : Heap} {v : Value}, rel X h v → Kx X X' h h' → rel X' h' v

structure Ty (α : Type) where
  rel : XS → Heap → Value → α → Prop
  mono : ∀ {X X' : XS} {h h' : Heap} {v : Value} {x : α}, rel X h v x → Kx X X' h h' → rel X' h' v x

def Ty.at {α : Type} (t : Ty α) (x : α) : Bd := ⟨fun X h v => t.rel X h v x, fun r k => t.mono r k⟩

def tInt : Ty Int := ⟨fun _ _ v x => ∃ t, v = .int x t, fun r _ => r⟩
def tBool : Ty Bool := ⟨fun _ _ v x => v = .bool x, fun r _ => r⟩
def tNone : Ty Unit := ⟨fun _ _ v _ => v = .none, fun r _ => r⟩
def tBytes : Ty (List UInt8) := ⟨fun _ _ v x => ∃ t, v = .bytes x.toArray t, fun r _ => r⟩
def tStr : Ty Str := ⟨fun _ _ v x => ∃ t, v = .str x t, fun r _ => r⟩
def tOpt {α : Type} (t : Ty α) : Ty (Option α) := ⟨fun X h v x => match x with | none => v = .none | some y => t.rel X h v y, by
  intro X X' h h' v x r k
  cases x with
  | none => exact r
  | some y => exact t.mono r k⟩
theorem isList_kx {X X' : XS} {h h' : Heap} {a : Addr} {vs : Array Value} (k : Kx X X' h h') (n : ¬ X a) (l : h.IsList a vs) : ¬ X' a ∧ h'.IsList a vs := by
  obtain ⟨o, ho, r⟩ := l
  exact ⟨(k a o n ho).1, o, (k a o n ho).2, r⟩
def tList {α : Type} (t : Ty α) : Ty (List α) := ⟨fun X h v xs => ∃ a vs, v = .ref a ∧ ¬ X a ∧ h.IsList a vs.toArray ∧ All2 (fun v x => t.rel X h v x) vs xs, by
  rintro X X' h h' v xs ⟨a, vs, rfl, n, l, r⟩ k
  obtain ⟨n', l'⟩ := isList_kx k n l
  exact ⟨a, vs, rfl, n', l', r.imp fun _ _ q => t.mono q k⟩⟩
/-- a list of two items of two kinds -/
def tTwo {α β : Type} (t : Ty α) (u : Ty β) : Ty (α × β) := ⟨fun X h v x => ∃ a v1 v2, v = .ref a ∧ ¬ X a ∧ h.IsList a #[v1, v2] ∧ t.rel X h v1 x.1 ∧ u.rel X h v2 x.2, by
  rintro X X' h h' v x ⟨a, v1, v2, rfl, n, l, r1, r2⟩ k
  obtain ⟨n', l'⟩ := isList_kx k n l
  exact ⟨a, v1, v2, rfl, n', l', t.mono r1 k, u.mono r2 k⟩⟩
/-- this very value -/
def bVal (v₀ : Value) : Bd := ⟨fun _ _ v => v = v₀, fun r _ => r⟩

/-- a heap predicate that stands when all is kept -/
structure Hp where
  p : Heap → Prop
  mono : ∀ {h h' : Heap}, p h → Keep h h' → p h'
def hTrue : Hp := ⟨fun _ => True, fun _ _ => trivial⟩

structure Frame (X : XS) (env : Env) (ρ : List (Str × Bd)) (h : Heap) : Prop where
  kind : env.scope.kind = .function
  gl : env.globals = mainGlobals
  bi : env.builtins = builtinsNs
  xl : X env.locals
  vars : ∃ m, h.Ns env.locals m ∧ ∀ n b, ρ.lookup n = some b → ∃ v, b.rel X h v ∧
    ((env.kindOf n = some .local ∧ m n = some v) ∨ ((env.kindOf n = some .cell ∨ env.kindOf n = some .free) ∧ ∃ c, env.cells.lookup n = some c ∧ h.IsCell c (some v)))
  cells : ∀ n c, env.cells.lookup n = some c → X c ∧ ∃ v, h.IsCell c v
  apart : env.cells.Pairwise fun x y => x.2 ≠ y.2

structure Wd (H0 : Heap) (X : XS) (h : Heap) : Prop where
  stay : ∀ b o, H0.get? b = some o → h.get? b = some o ∧ ¬ X b
theorem Wd.kx {H0 h h' : Heap} {X X' : XS} (x : Wd H0 X h) (k : Kx X X' h h') : Wd H0 X' h' :=
  ⟨fun b o e => let ⟨p, q⟩ := x.stay b o e; ⟨(k b o q p).2, (k b o q p).1⟩⟩
theorem Wd.keep {H0 h : Heap} {X : XS} (x : Wd H0 X h) : Keep H0 h := fun b o e => (x.stay b o e).1

def Live (X : XS) (h : Heap) : Prop := ∀ a, X a → ∃ o, h.get? a = some o
theorem Live.keep {X : XS} {h h' : Heap} (x : Live X h) (k : Keep h h') : Live X h' := fun a q => let ⟨o, e⟩ := x a q; ⟨o, k a o e⟩
theorem Live.fresh {X : XS} {h : Heap} (x : Live X h) : ¬ X h.objs.size := fun q => let ⟨_, e⟩ := x _ q; Nat.lt_irrefl _ (Heap.lt_size e)
theorem Live.none {X : XS} {h : Heap} (x : Live X h) {a : Addr} (e : h.get? a = none) : ¬ X a := fun q => by obtain ⟨o, e'⟩ := x _ q; rw [e] at e'; cases e'

structure OkA (A : Around) (n : Nat) : Prop where
  hh : A.handled = none
  dp : A.depth + n < recursionLimit
  un : A.units + 64 + 16 * n < cLine
theorem OkA.deeper {A : Around} {n : Nat} (x : OkA A (n + 1)) (env : Env) : OkA (A.deeper env) n :=
  ⟨x.hh, by have := x.dp; simp only [Around.deeper]; omega, by have := x.un; simp only [Around.deeper]; omega⟩
theorem OkA.le {A : Around} {n m : Nat} (x : OkA A n) (h : m ≤ n) : OkA A m := ⟨x.hh, by have := x.dp; omega, by have := x.un; omega⟩
theorem OkA.in1 {A : Around} {n : Nat} (x : OkA A (n + 1)) : OkA A.in1 n := ⟨x.hh, by have := x.dp; simp only [Around.in1]; omega, by have := x.un; simp only [Around.in1]; omega⟩

/-- only tokens and new objects -/
def Keeps (s s' : Shared) : Prop := ∃ h' tk, s' = { s with heap := h', toks := tk } ∧ ∀ b o, s.heap.get? b = some o → h'.get? b = some o
theorem Keeps.refl (s : Shared) : Keeps s s := ⟨s.heap, s.toks, rfl, fun _ _ e => e⟩
theorem Keeps.trans {s s' s'' : Shared} (x : Keeps s s') (y : Keeps s' s'') : Keeps s s'' := by
  obtain ⟨h, t, rfl, k⟩ := x
  obtain ⟨h', t', rfl, k'⟩ := y
  exact ⟨h', t', rfl, fun b o e => k' b o (k b o e)⟩
theorem Keeps.keep {s s' : Shared} (x : Keeps s s') : Keep s.heap s'.heap := by
  obtain ⟨h, t, rfl, k⟩ := x
  exact k
theorem Keeps.tok (s : Shared) (t : Nat) : Keeps s { s with toks := t } := ⟨s.heap, t, rfl, fun _ _ e => e⟩
theorem Keeps.push (s : Shared) (o : Obj) : Keeps s { s with heap := s.heap.push o } := ⟨_, s.toks, rfl, fun _ _ e => Heap.get?_push_of_some _ e⟩
theorem Keeps.mk' {s : Shared} {h : Heap} {t : Nat} (k : Keep s.heap h) : Keeps s { s with heap := h, toks := t } := ⟨h, t, rfl, k⟩

theorem Frame.keep {X : XS} {env : Env} {ρ : List (Str × Bd)} {h h' : Heap} (x : Frame X env ρ h) (k : Keep h h') : Frame X env ρ h' := by
  obtain ⟨m, hn, hv⟩ := x.vars
  refine ⟨x.kind, x.gl, x.bi, x.xl, ⟨m, hn.keeps k, fun n b e => ?_⟩, fun n c e => ?_, x.apart⟩
  · obtain ⟨v, r, c⟩ := hv n b e
    refine ⟨v, b.mono r (Kx.of_keep k), ?_⟩
    rcases c with c | ⟨q, c, hc, hd⟩
    · exact .inl c
    · exact .inr ⟨q, c, hc, hd.keeps k⟩
  · obtain ⟨q, v, hv⟩ := x.cells n c e
    exact ⟨q, v, hv.keeps k⟩

structure Γ where
  A : Around
  X : XS
  env : Env
  ρ : List (Str × Bd)
  Ω : Hp
  n : Nat

structure Cx (H0 : Heap) (g : Γ) (s : Shared) : Prop where
  fr : Frame g.X g.env g.ρ s.heap
  wd : Wd H0 g.X s.heap
  live : Live g.X s.heap
  om : g.Ω.p s.heap
  ok : OkA g.A g.n
theorem Cx.keep {H0 : Heap} {g : Γ} {s s' : Shared} (x : Cx H0 g s) (k : Keeps s s') : Cx H0 g s' :=
  ⟨x.fr.keep k.keep, x.wd.kx (Kx.of_keep k.keep), x.live.keep k.keep, g.Ω.mono x.om k.keep, x.ok⟩

section
variable (prog : Program) (w : World) (H0 : Heap)

def Ev (g : Γ) (Y : XS) (e : Expr) (b : Bd) : Prop :=
  ∀ s, Cx H0 g s → ∀ E, wpAny (model prog w) g.A (eval e g.env) (fun v s' => Keeps s s' ∧ b.rel Y s'.heap v) E s
/-- a test -/
def Ts (g : Γ) (e : Expr) (b : Bool) : Prop :=
  ∀ s, Cx H0 g s → ∀ E, wpAny (model prog w) g.A (isTrue e g.env (eval e g.env)) (fun c s' => Keeps s s' ∧ c = b) E s

def Fn (fa : Addr) (n : Nat) (args : List Bd) (kw : List (Str × Bd)) (res : Bd) : Prop :=
  (∃ o fd, H0.get? fa = some o ∧ o.data = .func fd) ∧ ∀ (A : Around) (s : Shared) (X : XS) (vs : List Value) (kvs : List (Str × Value)) (R : Result → Shared → Prop), OkA A n → Wd H0 X s.heap → Live X s.heap →
    All2 (fun v (b : Bd) => b.rel X s.heap v) vs args → All2 (fun (kv : Str × Value) (kb : Str × Bd) => kv.1 = kb.1 ∧ kb.2.rel X s.heap kv.2) kvs kw →
    (∀ v s', Keeps s s' → res.rel X s'.heap v → R (.ok (.ret v)) s') → codeAny (model prog w) A (.call (.ref fa) ⟨vs, kvs⟩) R s
end

section
variable {prog : Program} {w : World} {H0 : Heap} {g : Γ} {Y : XS}

/-- wpAny with Keeps accumulated -/
theorem Ev.use {e : Expr} {b : Bd} (h : Ev prog w H0 g Y e b) {s : Shared} (c : Cx H0 g s) {E : Value → Shared → Prop} {Q : Value → Shared → Prop}
    (k : ∀ v s', Keeps s s' → Cx H0 g s' → b.rel Y s'.heap v → Q v s') : wpAny (model prog w) g.A (eval e g.env) Q E s :=
  wpAny_mono (h s c E) (fun v s' q => k v s' q.1 (c.keep q.1) q.2) fun _ _ e => e
theorem Ts.use {e : Expr} {b : Bool} (h : Ts prog w H0 g e b) {s : Shared} (c : Cx H0 g s) {E : Value → Shared → Prop} {Q : Bool → Shared → Prop}
    (k : ∀ s', Keeps s s' → Cx H0 g s' → Q b s') : wpAny (model prog w) g.A (isTrue e g.env (eval e g.env)) Q E s :=
  wpAny_mono (h s c E) (fun v s' q => q.2 ▸ k s' q.1 (c.keep q.1)) fun _ _ e => e

theorem Ev.weak {e : Expr} {b : Bd} {Y' : XS} (h : Ev prog w H0 g Y e b) (hy : ∀ a, Y' a → Y a) : Ev prog w H0 g Y' e b :=
  fun s c E => wpAny_mono (h s c E) (fun v s' q => ⟨q.1, b.mono q.2 fun b o n e => ⟨fun z => n (hy b z), e⟩⟩) fun _ _ e => e

theorem Frame.var {X : XS} {env : Env} {ρ : List (Str × Bd)} {h : Heap} (x : Frame X env ρ h) {n : Str} {b : Bd} (e : ρ.lookup n = some b) (hn : (n == ("__classdict__" : Str)) = false) :
    ∃ v, b.rel X h v ∧ ∀ (M : Model) (A : Around) (E : Value → Shared → Prop) (Q : Value → Shared → Prop) (s : Shared), s.heap = h → Q v s → wpAny M A (loadName env n) Q E s := by
  obtain ⟨m, hm, hv⟩ := x.vars
  obtain ⟨v, r, c⟩ := hv n b e
  refine ⟨v, r, ?_⟩
  rintro M A E Q s rfl hq
  rcases c with ⟨c, d⟩ | ⟨q | q, c, hc, hd⟩
  · exact wpAny_loadName_local x.kind c hm d hq
  · exact wpAny_loadName_cell x.kind q hc hd hq
  · exact wpAny_loadName_free x.kind q hc hd hq hn

theorem ev_var {n : Str} {pos : Pos} {b : Bd} (e : g.ρ.lookup n = some b) (hn : (n == ("__classdict__" : Str)) = false) (hd : (n == ("__debug__" : Str)) = false) : Ev prog w H0 g g.X (.Name n pos) b := by
  intro s c E
  obtain ⟨v, r, h⟩ := c.fr.var e hn
  exact wpAny_Name (h _ _ _ _ s rfl ⟨Keeps.refl s, r⟩) hd

theorem ev_int {i : Int} {k : Nat} {pos : Pos} : Ev prog w H0 g g.X (.Constant (.int i) k pos) (tInt.at i) :=
  fun s _ _ => wpAny_Constant_int ⟨Keeps.tok s _, _, rfl⟩
theorem ev_bytes {x : List UInt8} {k : Nat} {pos : Pos} : Ev prog w H0 g g.X (.Constant (.bytes x) k pos) (tBytes.at x) :=
  fun s _ _ => Constant_bytes ⟨Keeps.tok s _, _, rfl⟩
theorem ev_str {x : Str} {k : Nat} {pos : Pos} : Ev prog w H0 g g.X (.Constant (.str x) k pos) (tStr.at x) :=
  fun s _ _ => Calls.Constant_str ⟨Keeps.tok s _, _, rfl⟩
theorem ev_none {k : Nat} {pos : Pos} : Ev prog w H0 g g.X (.Constant .none k pos) (tNone.at ()) :=
  fun s _ _ => wpAny_pure ⟨Keeps.refl s, rfl⟩
theorem ev_bool {b : Bool} {k : Nat} {pos : Pos} : Ev prog w H0 g g.X (.Constant (.bool b) k pos) (tBool.at b) :=
  fun s _ _ => wpAny_pure ⟨Keeps.refl s, rfl⟩
end
end Mine
end

section
open PySem PySem.W PyProof.Rows
namespace Mine
set_option linter.unusedVariables false
section
variable {prog : Program} {w : World} {H0 : Heap} {g : Γ} {Y Y1 Y2 : XS} {e1 e2 e : Expr} {b1 b2 b : Bd} {pos : Pos}

theorem Bd.keep (b : Bd) {X : XS} {s s' : Shared} {v : Value} (r : b.rel X s.heap v) (k : Keeps s s') : b.rel X s'.heap v := b.mono r (Kx.of_keep k.keep)

/-- what an operation gives -/
def OpOk (prog : Program) (w : World) (H0 : Heap) (g : Γ) (t : Value → Value → Sem Value) (Y1 : XS) (b1 : Bd) (Y2 : XS) (b2 : Bd) (Y : XS) (b : Bd) : Prop :=
  ∀ s v1 v2 E, Cx H0 g s → b1.rel Y1 s.heap v1 → b2.rel Y2 s.heap v2 → wpAny (model prog w) g.A (t v1 v2) (fun v s' => Keeps s s' ∧ b.rel Y s'.heap v) E s

theorem ev_bin {op : Operator} (h1 : Ev prog w H0 g Y1 e1 b1) (h2 : Ev prog w H0 g Y2 e2 b2) (hop : OpOk prog w H0 g (binaryOp op) Y1 b1 Y2 b2 g.X b) :
    Ev prog w H0 g g.X (.BinOp e1 op e2 pos) b := by
  intro s c E
  refine wpAny_BinOp (h1.use c fun v1 s1 k1 c1 r1 => h2.use c1 fun v2 s2 k2 c2 r2 => ?_)
  exact wpAny_mono (hop s2 v1 v2 E c2 (b1.keep r1 k2) r2) (fun v s' q => ⟨(k1.trans k2).trans q.1, q.2⟩) fun _ _ e => e

theorem op_int {op : Operator} {a b c : Int} (h : ∀ (A : Around) (s : Shared) (t u : Tok) (E : Value → Shared → Prop) (Q : Value → Shared → Prop), Q (.int c s.toks) { s with toks := s.toks + 1 } → wpAny (model prog w) A (binaryOp op (.int a t) (.int b u)) Q E s) :
    OpOk prog w H0 g (binaryOp op) Y1 (tInt.at a) Y2 (tInt.at b) Y (tInt.at c) := by
  rintro s v1 v2 E c ⟨t, rfl⟩ ⟨u, rfl⟩
  exact h _ _ _ _ _ _ ⟨Keeps.tok s _, _, rfl⟩
theorem op_add {a b : Int} : OpOk prog w H0 g (binaryOp .Add) Y1 (tInt.at a) Y2 (tInt.at b) Y (tInt.at (a + b)) := op_int fun _ _ _ _ _ _ h => add_int h
theorem op_sub {a b : Int} : OpOk prog w H0 g (binaryOp .Sub) Y1 (tInt.at a) Y2 (tInt.at b) Y (tInt.at (a - b)) := op_int fun _ _ _ _ _ _ h => sub_int h
theorem op_mul {a b : Int} (hm : IntMulOk a b) : OpOk prog w H0 g (binaryOp .Mult) Y1 (tInt.at a) Y2 (tInt.at b) Y (tInt.at (a * b)) := op_int fun _ _ _ _ _ _ h => mul_int h hm
theorem op_mod {a b : Int} (hb : b ≠ 0) : OpOk prog w H0 g (binaryOp .Mod) Y1 (tInt.at a) Y2 (tInt.at b) Y (tInt.at (a.fmod b)) := op_int fun _ _ _ _ _ _ h => mod_int' hb h
theorem op_div {a b : Int} (hb : b ≠ 0) (hs : b.natAbs < 1073741824) : OpOk prog w H0 g (binaryOp .FloorDiv) Y1 (tInt.at a) Y2 (tInt.at b) Y (tInt.at (a.fdiv b)) := op_int fun _ _ _ _ _ _ h => floordiv_int hb h (.inl (PyProof.noPylong_small hs))
theorem op_pow {a n : Int} (hn : 0 ≤ n) (hn2 : n ≤ 1000000) (ha : a.natAbs < 2 ^ 64) : OpOk prog w H0 g (binaryOp .Pow) Y1 (tInt.at a) Y2 (tInt.at n) Y (tInt.at (a ^ n.toNat)) := op_int fun _ _ _ _ _ _ h => pow_int_small hn hn2 ha h
theorem op_shl {a n : Int} (hn : 0 ≤ n) (hn2 : n ≤ 1000000) (ha : a.natAbs < 2 ^ 64) : OpOk prog w H0 g (binaryOp .LShift) Y1 (tInt.at a) Y2 (tInt.at n) Y (tInt.at (a * 2 ^ n.toNat)) := op_int fun _ _ _ _ _ _ h => lshift_int_small hn hn2 ha h
theorem op_shr {a n : Int} (hn : 0 ≤ n) : OpOk prog w H0 g (binaryOp .RShift) Y1 (tInt.at a) Y2 (tInt.at n) Y (tInt.at (a.fdiv (2 ^ n.toNat))) := op_int fun _ _ _ _ _ _ h => rshift_int hn h
theorem op_and {a b : Int} : OpOk prog w H0 g (binaryOp .BitAnd) Y1 (tInt.at a) Y2 (tInt.at b) Y (tInt.at (Builtin.bitAnd a b)) := op_int fun _ _ _ _ _ _ h => and_int h
theorem op_or {a b : Int} : OpOk prog w H0 g (binaryOp .BitOr) Y1 (tInt.at a) Y2 (tInt.at b) Y (tInt.at (Builtin.bitOr a b)) := op_int fun _ _ _ _ _ _ h => or_int h
theorem op_addBytes {a b : List UInt8} (hz : a.length + b.length ≤ 16777216) : OpOk prog w H0 g (binaryOp .Add) Y1 (tBytes.at a) Y2 (tBytes.at b) Y (tBytes.at (a ++ b)) := by
  rintro s v1 v2 E c ⟨t, rfl⟩ ⟨u, rfl⟩
  refine KBy.add_bytes (by simpa using hz) fun t' k => ⟨Keeps.tok s _, t', ?_⟩
  simp

theorem ev_cmp {op : CmpOp} {c : Bool} (h1 : Ev prog w H0 g Y1 e1 b1) (h2 : Ev prog w H0 g Y2 e2 b2) (hop : OpOk prog w H0 g (compareOp op) Y1 b1 Y2 b2 g.X (tBool.at c))
    (hm : behindInMarks op e2 = false) : Ev prog w H0 g g.X (.Compare e1 [op] [e2] pos) (tBool.at c) := by
  intro s c E
  refine wpAny_Compare1 (h1.use c fun v1 s1 k1 c1 r1 => h2.use c1 fun v2 s2 k2 c2 r2 => ?_) hm
  exact wpAny_mono (hop s2 v1 v2 E c2 (b1.keep r1 k2) r2) (fun v s' q => ⟨(k1.trans k2).trans q.1, q.2⟩) fun _ _ e => e
theorem ts_cmp {op : CmpOp} {c : Bool} (h1 : Ev prog w H0 g Y1 e1 b1) (h2 : Ev prog w H0 g Y2 e2 b2) (hop : OpOk prog w H0 g (compareOp op) Y1 b1 Y2 b2 (fun _ => False) (tBool.at c))
    (hm : behindInMarks op e2 = false) : Ts prog w H0 g (.Compare e1 [op] [e2] pos) c := by
  intro s c E
  refine wpAny_isTrue_Compare1 (h1.use c fun v1 s1 k1 c1 r1 => h2.use c1 fun v2 s2 k2 c2 r2 => ?_) hm
  refine wpAny_mono (hop s2 v1 v2 E c2 (b1.keep r1 k2) r2) (fun v s' q => ?_) fun _ _ e => e
  obtain ⟨k, rfl⟩ := q
  exact wpAny_truthy_bool ⟨(k1.trans k2).trans k, rfl⟩

theorem op_cmpInt {op : CmpOp} {a b : Int} {c : Bool} (h : ∀ (A : Around) (s : Shared) (t u : Tok) (E : Value → Shared → Prop) (Q : Value → Shared → Prop), Q (.bool c) s → wpAny (model prog w) A (compareOp op (.int a t) (.int b u)) Q E s) :
    OpOk prog w H0 g (compareOp op) Y1 (tInt.at a) Y2 (tInt.at b) Y (tBool.at c) := by
  rintro s v1 v2 E c ⟨t, rfl⟩ ⟨u, rfl⟩
  exact h _ _ _ _ _ _ ⟨Keeps.refl s, rfl⟩
theorem op_eq {a b : Int} : OpOk prog w H0 g (compareOp .Eq) Y1 (tInt.at a) Y2 (tInt.at b) Y (tBool.at (decide (a = b))) := op_cmpInt fun _ _ _ _ _ _ h => eq_int (by rw [show (a == b) = decide (a = b) from rfl]; exact h)
theorem op_ne {a b : Int} : OpOk prog w H0 g (compareOp .NotEq) Y1 (tInt.at a) Y2 (tInt.at b) Y (tBool.at (decide (a ≠ b))) := op_cmpInt fun _ _ _ _ _ _ h => ne_int (by rw [show (a != b) = decide (a ≠ b) by simp [bne]; rfl]; exact h)
theorem op_lt {a b : Int} : OpOk prog w H0 g (compareOp .Lt) Y1 (tInt.at a) Y2 (tInt.at b) Y (tBool.at (decide (a < b))) := op_cmpInt fun _ _ _ _ _ _ h => lt_int h
theorem op_le {a b : Int} : OpOk prog w H0 g (compareOp .LtE) Y1 (tInt.at a) Y2 (tInt.at b) Y (tBool.at (decide (a ≤ b))) := op_cmpInt fun _ _ _ _ _ _ h => le_int h
theorem op_ge {a b : Int} : OpOk prog w H0 g (compareOp .GtE) Y1 (tInt.at a) Y2 (tInt.at b) Y (tBool.at (decide (b ≤ a))) := op_cmpInt fun _ _ _ _ _ _ h => ge_int h
theorem op_eqBytes {a b : List UInt8} : OpOk prog w H0 g (compareOp .Eq) Y1 (tBytes.at a) Y2 (tBytes.at b) Y (tBool.at (decide (a = b))) := by
  rintro s v1 v2 E c ⟨t, rfl⟩ ⟨u, rfl⟩
  exact eq_bytes ⟨Keeps.refl s, by show Value.bool (a == b) = Value.bool (decide (a = b)); congr 1; exact Bool.eq_iff_iff.mpr (by simp)⟩
theorem op_isNone {cc : Bool} (hb : ∀ (s : Shared) (v1 : Value), b1.rel Y1 s.heap v1 → (v1 == Value.none) = cc) : OpOk prog w H0 g (compareOp .Is) Y1 b1 Y2 (tNone.at ()) Y (tBool.at cc) := by
  rintro s v1 v2 E c r rfl
  exact is_none_gen ⟨Keeps.refl s, congrArg Value.bool (hb s v1 r)⟩

theorem ts_not {c : Bool} (h : Ts prog w H0 g e c) : Ts prog w H0 g (.UnaryOp .Not e pos) (!c) := by
  intro s x E
  exact isTrue_not (h.use x fun s' k _ => ⟨k, rfl⟩)
theorem ts_andNil : Ts prog w H0 g (.BoolOp .And [] pos) true := fun s _ _ => isTrue_and_nil ⟨Keeps.refl s, rfl⟩
theorem ts_orNil : Ts prog w H0 g (.BoolOp .Or [] pos) false := fun s _ _ => isTrue_or_nil ⟨Keeps.refl s, rfl⟩
theorem isTrue_boolop_whole (op : BoolOp) (es : List Expr) (pos : Pos) (env : Env) (a b : Sem Value) : isTrue (.BoolOp op es pos) env a = isTrue (.BoolOp op es pos) env b := rfl
theorem ts_and {c d : Bool} {es : List Expr} (h : Ts prog w H0 g e c) (h2 : c = true → Ts prog w H0 g (.BoolOp .And es pos) d) : Ts prog w H0 g (.BoolOp .And (e :: es) pos) (c && d) := by
  intro s x E
  refine isTrue_and (h.use x fun s' k x' => ?_)
  cases c with
  | false => exact ⟨k, rfl⟩
  | true => exact wpAny_mono (h2 rfl s' x' E) (fun c s'' q => ⟨k.trans q.1, q.2⟩) fun _ _ e => e
theorem ts_or {c d : Bool} {es : List Expr} (h : Ts prog w H0 g e c) (h2 : c = false → Ts prog w H0 g (.BoolOp .Or es pos) d) : Ts prog w H0 g (.BoolOp .Or (e :: es) pos) (c || d) := by
  intro s x E
  refine isTrue_or (h.use x fun s' k x' => ?_)
  cases c with
  | true => exact ⟨k, rfl⟩
  | false => exact wpAny_mono (h2 rfl s' x' E) (fun c s'' q => ⟨k.trans q.1, q.2⟩) fun _ _ e => e

/-- truth of a value -/
def TrOk (prog : Program) (w : World) (H0 : Heap) (g : Γ) (Y1 : XS) (b1 : Bd) (c : Bool) : Prop :=
  ∀ s v1 E, Cx H0 g s → b1.rel Y1 s.heap v1 → wpAny (model prog w) g.A (truthy v1) (fun v s' => Keeps s s' ∧ v = c) E s
theorem tr_bool {c : Bool} : TrOk prog w H0 g Y (tBool.at c) c := by
  rintro s v E _ rfl
  exact wpAny_truthy_bool ⟨Keeps.refl s, rfl⟩
theorem tr_int {a : Int} : TrOk prog w H0 g Y (tInt.at a) (decide (a ≠ 0)) := by
  rintro s v E _ ⟨t, rfl⟩
  exact truthy_int ⟨Keeps.refl s, by simp [bne]; rfl⟩
theorem tr_list {α : Type} {t : Ty α} {xs : List α} (hz : xs.length ≤ 16777216) : TrOk prog w H0 g Y ((tList t).at xs) (!xs.isEmpty) := by
  rintro s v E _ ⟨a, vs, rfl, n, l, r⟩
  refine wpAny_truthy_list l (by have := r.length; simp; omega) ⟨Keeps.tok s _, ?_⟩
  cases r <;> rfl
theorem ts_val {c : Bool} (h : Ev prog w H0 g Y e b) (ht : TrOk prog w H0 g Y b c)
    (hp : ∀ (whole : Sem Value) (env : Env), isTrue e env whole = (do let v ← whole; standAt e.pos; holding [v] (truthy v))) : Ts prog w H0 g e c := by
  intro s x E
  rw [hp]
  exact wpAny_bind (h.use x fun v s1 k c1 r => wpAny_bind (wpAny_standAt (wpAny_holding (wpAny_mono (ht s1 v E c1 r) (fun _ s2 q => ⟨k.trans q.1, q.2⟩) fun _ _ e => e))))

theorem ev_ifexp {c : Bool} {test : Expr} (h : Ts prog w H0 g test c) (h1 : c = true → Ev prog w H0 g Y e1 b) (h2 : c = false → Ev prog w H0 g Y e2 b) : Ev prog w H0 g Y (.IfExp test e1 e2 pos) b := by
  intro s x E
  refine IfExp_ (h.use x fun s' k x' => ?_)
  cases c with
  | true => exact wpAny_mono (h1 rfl s' x' E) (fun _ _ q => ⟨k.trans q.1, q.2⟩) fun _ _ e => e
  | false => exact wpAny_mono (h2 rfl s' x' E) (fun _ _ q => ⟨k.trans q.1, q.2⟩) fun _ _ e => e
theorem ev_and2 {c d : Bool} (h1 : Ev prog w H0 g Y e1 (tBool.at c)) (h2 : c = true → Ev prog w H0 g Y e2 (tBool.at d)) : Ev prog w H0 g Y (.BoolOp .And [e1, e2] pos) (tBool.at (c && d)) := by
  intro s x E
  refine BoolOp_and (h1.use x fun v s' k x' r => ?_)
  obtain rfl : v = .bool c := r
  refine wpAny_truthy_bool ?_
  cases c with
  | true => exact BoolOp_one (wpAny_mono (h2 rfl s' x' E) (fun _ _ q => ⟨k.trans q.1, q.2⟩) fun _ _ e => e)
  | false => exact ⟨k, rfl⟩
theorem ev_not {c : Bool} (h : Ev prog w H0 g Y1 e b1) (ht : TrOk prog w H0 g Y1 b1 c) : Ev prog w H0 g g.X (.UnaryOp .Not e pos) (tBool.at (!c)) := by
  intro s x E
  refine UnaryOp_ (h.use x fun v s1 k c1 r => not_of ?_)
  exact wpAny_mono (ht s1 v E c1 r) (fun _ s2 q => ⟨k.trans q.1, congrArg (fun z => Value.bool (!z)) q.2⟩) fun _ _ e => e

theorem ts_chain2 {o1 o2 : CmpOp} {e3 : Expr} {b3 : Bd} {c d : Bool} {Y3 : XS} (h1 : Ev prog w H0 g Y1 e1 b1) (h2 : Ev prog w H0 g Y2 e2 b2) (h3 : Ev prog w H0 g Y3 e3 b3)
    (hop : OpOk prog w H0 g (compareOp o1) Y1 b1 Y2 b2 (fun _ => False) (tBool.at c)) (hop2 : OpOk prog w H0 g (compareOp o2) Y2 b2 Y3 b3 (fun _ => False) (tBool.at d))
    (hm : lastMarks [o1, o2] [e2, e3] = false) : Ts prog w H0 g (.Compare e1 [o1, o2] [e2, e3] pos) (c && d) := by
  intro s x E
  refine isTrue_chain (h1.use x fun v1 s1 k1 c1 r1 => ?_) hm
  show wpAny _ _ (do
    let rv ← holding [v1] (eval e2 g.env)
    standAt pos
    let c ← holding [v1, rv] (compareOp o1 v1 rv)
    release [v1, rv] [c]
    if ← holding [c, rv] (truthy c) then testChain pos rv [o2] [eval e3 g.env] else pure false) _ _ _
  refine wpAny_bind (wpAny_holding (h2.use c1 fun v2 s2 k2 c2 r2 => wpAny_bind (wpAny_standAt (wpAny_bind (wpAny_holding ?_)))))
  refine wpAny_mono (hop s2 v1 v2 E c2 (b1.keep r1 k2) r2) (fun v s3 q => ?_) fun _ _ e => e
  obtain ⟨k3, rfl⟩ := q
  refine wpAny_bind (wpAny_release' (wpAny_bind (wpAny_holding (wpAny_truthy_bool ?_))))
  have k := (k1.trans k2).trans k3
  cases c with
  | false => exact wpAny_pure ⟨k, rfl⟩
  | true =>
    show wpAny _ _ (do
      let rv ← holding [v2] (eval e3 g.env)
      standAt pos
      let c ← operate [v2, rv] (compareOp o2 v2 rv)
      holding [c] (truthy c)) _ _ _
    refine wpAny_bind (wpAny_holding (h3.use (c2.keep k3) fun v4 s4 k4 c4 r4 => wpAny_bind (wpAny_standAt (wpAny_bind (wpAny_operate' ?_)))))
    refine wpAny_mono (hop2 s4 v2 v4 E c4 (b2.keep (b2.keep r2 k3) k4) r4) (fun v s5 q => ?_) fun _ _ e => e
    obtain ⟨k5, rfl⟩ := q
    exact wpAny_holding (wpAny_truthy_bool ⟨(k.trans k4).trans k5, rfl⟩)
end
end Mine
end

section
open PySem PySem.W PyProof.Rows
namespace Mine
set_option linter.unusedVariables false

structure W0 (K : Frag) (H0 : Heap) : Prop where
  kin : K.In H0
  ns : ∃ mg mb, H0.Ns mainGlobals mg ∧ H0.Ns builtinsNs mb ∧ (∀ x : Str, x ≠ "__name__" → mb x = bootBuiltins x)
  lim : H0.NoLimit

section
variable {prog : Program} {w : World} {H0 : Heap} {K : Frag} {g : Γ} {Y Y1 Y2 : XS} {e1 e2 e : Expr} {b1 b2 b r : Bd} {pos p : Pos}

theorem ev_glob (W : W0 K H0) {n : Str} {v : Value} (hk : g.env.kindOf n = some .globalImplicit) (e : nsIn K mainGlobals n = some (some v)) (hd : (n == ("__debug__" : Str)) = false) :
    Ev prog w H0 g g.X (.Name n p) (bVal v) := by
  intro s c E
  obtain ⟨mg, mb, hg, hb, hbb⟩ := W.ns
  exact Calls.Name_function_global c.fr.kind hk (Calls.loadGlobal_global (by rw [c.fr.gl]; exact hg.keeps c.wd.keep) (mg_of W.kin hg e) ⟨Keeps.refl s, rfl⟩) hd
theorem ev_globB (W : W0 K H0) {n : Str} {v : Value} (hk : g.env.kindOf n = some .globalImplicit) (e : nsIn K mainGlobals n = some (some v)) (hd : (n == ("__debug__" : Str)) = false)
    (hr : ∀ h, b.rel g.X h v) : Ev prog w H0 g g.X (.Name n p) b := by
  intro s c E
  exact wpAny_mono (ev_glob W hk e hd s c E) (fun v' s' q => by obtain ⟨k, rfl⟩ := q; exact ⟨k, hr _⟩) fun _ _ e => e
theorem ev_boot (W : W0 K H0) {n : Str} {v : Value} (hk : g.env.kindOf n = some .globalImplicit) (e : nsIn K mainGlobals n = some none) (hv : bootBuiltins n = some v) (hn : n ≠ "__name__") (hd : (n == ("__debug__" : Str)) = false) :
    Ev prog w H0 g g.X (.Name n p) (bVal v) := by
  intro s c E
  obtain ⟨mg, mb, hg, hb, hbb⟩ := W.ns
  exact Calls.Name_function_global c.fr.kind hk (Calls.loadGlobal_builtin (by rw [c.fr.gl]; exact hg.keeps c.wd.keep) (mg_none_of W.kin hg e) (by rw [c.fr.bi]; exact hb.keeps c.wd.keep) ((hbb n hn).trans hv) ⟨Keeps.refl s, rfl⟩) hd

/-- arguments by place -/
def Evs (prog : Program) (w : World) (H0 : Heap) (g : Γ) (Y : XS) (pos : Pos) (es : List Expr) (bs : List Bd) : Prop :=
  ∀ s, Cx H0 g s → ∀ E, wpAny (model prog w) g.A (spliced (backTo pos (starEach es g.env))) (fun vs s' => Keeps s s' ∧ All2 (fun v (b : Bd) => b.rel Y s'.heap v) vs bs) E s
theorem evs_nil : Evs prog w H0 g Y pos [] [] := fun s _ _ => Calls.spliced_nil ⟨Keeps.refl s, .nil⟩
theorem evs_cons {es : List Expr} {bs : List Bd} (h : Ev prog w H0 g Y e b) (hs : Evs prog w H0 g Y pos es bs) (he : ∀ env, starEach (e :: es) env = (false, eval e env) :: starEach es env) :
    Evs prog w H0 g Y pos (e :: es) (b :: bs) := by
  intro s c E
  rw [he]
  refine Calls.spliced_cons (h.use c fun v s1 k1 c1 r1 => ?_)
  refine wpAny_mono (hs s1 c1 E) (fun vs s2 q => ⟨k1.trans q.1, .cons (b.keep r1 q.1) q.2⟩) fun _ _ e => e

theorem evalArgs_of {f : Value} {es : List Expr} {Q : Args → Shared → Prop} {E : Value → Shared → Prop} {s : Shared} (he : ∀ env, starEach (e :: es) env = (false, eval e env) :: starEach es env)
    (h : wpAny (model prog w) g.A (spliced (backTo pos (starEach (e :: es) g.env))) (fun vs s' => Q ⟨vs, []⟩ s') E s) : wpAny (model prog w) g.A (evalArgs f true (backTo pos (starEach (e :: es) g.env)) []) Q E s := by
  rw [he] at h ⊢
  exact Calls.evalArgs_plain h

theorem ev_call {f : Str} {fa : Addr} {es : List Expr} {bs : List Bd} {n : Nat} (hf : Ev prog w H0 g Y (.Name f p) (bVal (.ref fa))) (hs : Evs prog w H0 g g.X pos (e :: es) bs)
    (F : Fn prog w H0 fa n bs [] r) (hn : n ≤ g.n) (he : ∀ env, starEach (e :: es) env = (false, eval e env) :: starEach es env) : Ev prog w H0 g g.X (.Call (.Name f p) (e :: es) [] pos) r := by
  intro s c E
  obtain ⟨⟨o, fd, ho, hd⟩, F⟩ := F
  refine wpAny_Call_Name_kw (hf.use c fun v s1 k1 c1 r1 => ?_)
  obtain rfl : v = .ref fa := r1
  refine Calls.callWith_function (o := o) (fd := fd) (evalArgs_of he ?_)
  refine wpAny_mono (hs s1 c1 E) (fun vs s2 q => ⟨⟨(c1.wd.kx (Kx.of_keep q.1.keep)).keep _ _ ho, hd⟩, ?_⟩) fun _ _ e => e
  have c2 := c1.keep q.1
  refine wpAny_call (F _ s2 g.X vs [] _ (c2.ok.le hn) c2.wd c2.live q.2 .nil fun v s3 k3 r3 => ?_)
  exact ⟨(k1.trans q.1).trans k3, r3⟩

/-- one keyword argument -/
theorem ev_call_kw {f : Str} {fa : Addr} {es : List Expr} {bs : List Bd} {n : Nat} {kn : Str} {ke : Expr} {kb : Bd} {kp : Pos} (hf : Ev prog w H0 g Y (.Name f p) (bVal (.ref fa))) (hs : Evs prog w H0 g g.X pos (e :: es) bs)
    (hk : Ev prog w H0 g g.X ke kb)
    (F : Fn prog w H0 fa n bs [(kn, kb)] r) (hn : n ≤ g.n) (he : ∀ env, starEach (e :: es) env = (false, eval e env) :: starEach es env) : Ev prog w H0 g g.X (.Call (.Name f p) (e :: es) [⟨some kn, ke, kp⟩] pos) r := by
  intro s c E
  obtain ⟨⟨o, fd, ho, hd⟩, F⟩ := F
  refine wpAny_Call_Name_kw (hf.use c fun v s1 k1 c1 r1 => ?_)
  obtain rfl : v = .ref fa := r1
  refine callWith_function_kw (o := o) (fd := fd) ?_
  rw [he]
  refine evalArgs_kw rfl ?_
  have hs1 := hs s1 c1 E
  rw [he] at hs1
  refine wpAny_mono hs1 (fun vs s2 q => ?_) fun _ _ e => e
  have c2 := c1.keep q.1
  show wpAny _ _ (evalAll [do let v ← eval ke g.env; standAt pos; pure v]) _ _ _
  refine wpAny_evalAll_cons (wpAny_bind (hk.use c2 fun kv s3 k3 c3 r3 => wpAny_bind (wpAny_standAt (wpAny_pure (wpAny_evalAll_nil ⟨⟨c3.wd.keep _ _ ho, hd⟩, ?_⟩)))))
  refine wpAny_call (F _ s3 g.X vs [(kn, kv)] _ (c3.ok.le hn) c3.wd c3.live (q.2.imp fun v b z => b.keep z k3) (.cons ⟨rfl, r3⟩ .nil) fun v s4 k4 r4 => ?_)
  exact ⟨((k1.trans q.1).trans k3).trans k4, r4⟩

/-- a value related to nothing on the heap -/
theorem ev_imp (h : Ev prog w H0 g Y e b) (hi : ∀ s v, Cx H0 g s → b.rel Y s.heap v → r.rel Y2 s.heap v) : Ev prog w H0 g Y2 e r :=
  fun s c E => h.use c fun v s' k c' q => ⟨k, hi s' v c' q⟩
end

/-- all is kept but Z -/
def KOff (Z : XS) (s s' : Shared) : Prop := ∃ h' tk, s' = { s with heap := h', toks := tk } ∧ ∀ b o, ¬ Z b → s.heap.get? b = some o → h'.get? b = some o
theorem KOff.get {Z : XS} {s s' : Shared} (x : KOff Z s s') {b : Addr} {o : Obj} (n : ¬ Z b) (e : s.heap.get? b = some o) : s'.heap.get? b = some o := by
  obtain ⟨h, t, rfl, k⟩ := x; exact k b o n e
theorem KOff.of_keeps {Z : XS} {s s' : Shared} (x : Keeps s s') : KOff Z s s' := by
  obtain ⟨h, t, rfl, k⟩ := x; exact ⟨h, t, rfl, fun b o _ e => k b o e⟩
theorem KOff.refl {Z : XS} (s : Shared) : KOff Z s s := .of_keeps (.refl s)
theorem KOff.trans {Z Z' Z'' : XS} {s s' s'' : Shared} (x : KOff Z s s') (y : KOff Z' s' s'') (h : ∀ b o, ¬ Z'' b → s.heap.get? b = some o → ¬ Z b ∧ ¬ Z' b) : KOff Z'' s s'' := by
  obtain ⟨h1, t1, rfl, k1⟩ := x
  obtain ⟨h2, t2, rfl, k2⟩ := y
  exact ⟨h2, t2, rfl, fun b o n e => k2 b o (h b o n e).2 (k1 b o (h b o n e).1 e)⟩
theorem KOff.keeps {Z : XS} {s s' : Shared} (x : KOff Z s s') (h : ∀ b o, s.heap.get? b = some o → ¬ Z b) : Keeps s s' := by
  obtain ⟨h1, t1, rfl, k1⟩ := x
  exact ⟨h1, t1, rfl, fun b o e => k1 b o (h b o e) e⟩
theorem KOff.mono {Z Z' : XS} {s s' : Shared} (x : KOff Z s s') (h : ∀ b, Z b → Z' b) : KOff Z' s s' := by
  obtain ⟨h1, t1, rfl, k1⟩ := x
  exact ⟨h1, t1, rfl, fun b o n e => k1 b o (fun z => n (h b z)) e⟩

/-- a function's body at work: since s₀ all is kept but Z -/
structure Sx (H0 : Heap) (Z : XS) (s₀ : Shared) (g : Γ) (s : Shared) : Prop where
  cx : Cx H0 g s
  k0 : KOff Z s₀ s
  wl : Z g.env.locals ∨ s₀.heap.get? g.env.locals = none
  wc : ∀ n c, g.env.cells.lookup n = some c → Z c ∨ s₀.heap.get? c = none
theorem Sx.keep {H0 : Heap} {Z : XS} {s₀ s s' : Shared} {g : Γ} (x : Sx H0 Z s₀ g s) (k : Keeps s s') : Sx H0 Z s₀ g s' :=
  ⟨x.cx.keep k, x.k0.trans (KOff.of_keeps (Z := Z) k) fun b o n e => ⟨n, n⟩, x.wl, x.wc⟩

/-- an address of the frame's own -/
def Fa (env : Env) (a : Addr) : Prop := a = env.locals ∨ ∃ n, env.cells.lookup n = some a

/-- stands when only Z is written -/
def Hp.StOff (Ω : Hp) (Z : XS) : Prop := ∀ h h', (∀ b o, ¬ Z b → h.get? b = some o → h'.get? b = some o) → Ω.p h → Ω.p h'
theorem hTrue_st {Z : XS} : hTrue.StOff Z := fun _ _ _ _ => trivial

theorem isCell_at {h h' : Heap} {c : Addr} {v : Option Value} (x : h.IsCell c v) (e : ∀ o, h.get? c = some o → h'.get? c = some o) : h'.IsCell c v := let ⟨o, ho, r⟩ := x; ⟨o, e o ho, r⟩

section
variable {prog : Program} {w : World} {H0 : Heap} {Z : XS} {s₀ s : Shared} {g : Γ}

theorem frame_cells_ne {X : XS} {env : Env} {ρ : List (Str × Bd)} {h : Heap} (x : Frame X env ρ h) {n : Str} {c : Addr} (e : env.cells.lookup n = some c) : c ≠ env.locals := by
  rintro rfl
  obtain ⟨m, ⟨o, es, ep, ho, hd, _⟩, _⟩ := x.vars
  obtain ⟨_, v, o', ho', hd'⟩ := x.cells n _ e
  rw [ho] at ho'; cases ho'
  rw [hd] at hd'; cases hd'

theorem storeC {A : Around} {n : Str} {v : Value} {b : Bd} {E : Value → Shared → Prop} {Q : Unit → Shared → Prop} (x : Cx H0 g s) (r : b.rel g.X s.heap v)
    (hΩ : ∀ a h', (a = g.env.locals ∨ g.env.cells.lookup n = some a) → Heap.SameBut a s.heap h' → g.Ω.p h')
    (hk : g.env.kindOf n = some .local ∨ (g.env.kindOf n = some .cell ∧ (g.env.cells.lookup n).isSome = true))
    (h : ∀ s' a, Cx H0 { g with ρ := (n, b) :: g.ρ } s' → (a = g.env.locals ∨ g.env.cells.lookup n = some a) → KOff (fun b => b = a) s s' → Q () s') : wpAny (model prog w) A (storeName g.env n v) Q E s := by
  have fr := x.fr
  obtain ⟨m, hm, hv⟩ := fr.vars
  have fin : ∀ (a : Addr) (h' : Heap) (tk : Nat), (a = g.env.locals ∨ g.env.cells.lookup n = some a) → g.X a → Heap.SameBut a s.heap h' → (∃ o, h'.get? a = some o) → Frame g.X g.env ((n, b) :: g.ρ) h' → Q () { s with heap := h', toks := tk } := by
    intro a h' tk fn xa sb lv fr'
    have kx : Kx g.X g.X s.heap h' := fun b o nb e => ⟨nb, (sb.2 b (fun q => nb (q ▸ xa))).trans e⟩
    refine h _ a ⟨fr', x.wd.kx kx, fun a' xa' => ?_, hΩ a h' fn sb, x.ok⟩ fn ⟨h', tk, rfl, fun b o nb e => (sb.2 b nb).trans e⟩
    by_cases q : a' = a
    · subst q; exact lv
    · obtain ⟨o, e⟩ := x.live a' xa'; exact ⟨o, (sb.2 a' q).trans e⟩
  rcases hk with hl | ⟨hc, hs⟩
  · refine wpAny_storeName_local hl hm (fun h' hn sb => fin g.env.locals h' _ (.inl rfl) fr.xl sb (let ⟨o, _, _, ho, _⟩ := hn; ⟨o, ho⟩) ?_) (by rw [fr.kind]; rfl)
    have kx : Kx g.X g.X s.heap h' := fun b o nb e => ⟨nb, (sb.2 b (fun q => nb (q ▸ fr.xl))).trans e⟩
    refine ⟨fr.kind, fr.gl, fr.bi, fr.xl, ⟨_, hn, fun y b' e => ?_⟩, fun y c e => ?_, fr.apart⟩
    · simp only [List.lookup_cons] at e
      by_cases hy : y = n
      · subst hy
        simp at e; subst e
        exact ⟨v, b.mono r kx, .inl ⟨hl, by simp⟩⟩
      · have : (y == n) = false := by simpa using hy
        rw [this] at e
        obtain ⟨v', r', c'⟩ := hv y b' e
        refine ⟨v', b'.mono r' kx, ?_⟩
        rcases c' with ⟨c1, c2⟩ | ⟨c1, c, c2, c3⟩
        · exact .inl ⟨c1, by simp [hy, c2]⟩
        · exact .inr ⟨c1, c, c2, isCell_at c3 fun o e => (sb.2 c (frame_cells_ne fr c2)).trans e⟩
    · obtain ⟨xc, v', hc⟩ := fr.cells y c e
      exact ⟨xc, v', isCell_at hc fun o e' => (sb.2 c (frame_cells_ne fr e)).trans e'⟩
  · obtain ⟨c, hcl⟩ := Option.isSome_iff_exists.mp hs
    obtain ⟨xc, v0, hc0⟩ := fr.cells n c hcl
    have hne := frame_cells_ne fr hcl
    refine wpAny_storeName_cell fr.kind hc hcl hc0 fun h' hc' sb => fin c h' s.toks (.inr hcl) xc sb (let ⟨o, ho, _⟩ := hc'; ⟨o, ho⟩) ?_
    have kx : Kx g.X g.X s.heap h' := fun b o nb e => ⟨nb, (sb.2 b (fun q => nb (q ▸ xc))).trans e⟩
    refine ⟨fr.kind, fr.gl, fr.bi, fr.xl, ⟨_, hm.sameBut sb (Ne.symm hne), fun y b' e => ?_⟩, fun y c' e => ?_, fr.apart⟩
    · simp only [List.lookup_cons] at e
      by_cases hy : y = n
      · subst hy
        simp at e; subst e
        exact ⟨v, b.mono r kx, .inr ⟨.inl hc, c, hcl, hc'⟩⟩
      · have : (y == n) = false := by simpa using hy
        rw [this] at e
        obtain ⟨v', r', c'⟩ := hv y b' e
        refine ⟨v', b'.mono r' kx, ?_⟩
        rcases c' with c1 | ⟨c1, c₂, c2, c3⟩
        · exact .inl c1
        · refine .inr ⟨c1, c₂, c2, isCell_at c3 fun o e' => (sb.2 c₂ fun q => hy ?_).trans e'⟩
          exact name_of_addr fr.apart (mem_of_lookup c2) (q ▸ mem_of_lookup hcl)
    · obtain ⟨xc', v', hc''⟩ := fr.cells y c' e
      by_cases q : c' = c
      · subst q; exact ⟨xc', _, hc'⟩
      · exact ⟨xc', v', isCell_at hc'' fun o e' => (sb.2 c' q).trans e'⟩
theorem store {A : Around} {n : Str} {v : Value} {b : Bd} {E : Value → Shared → Prop} {Q : Unit → Shared → Prop} (x : Sx H0 Z s₀ g s) (r : b.rel g.X s.heap v) (hΩ : g.Ω.StOff (Fa g.env))
    (hk : g.env.kindOf n = some .local ∨ (g.env.kindOf n = some .cell ∧ (g.env.cells.lookup n).isSome = true))
    (h : ∀ s', Sx H0 Z s₀ { g with ρ := (n, b) :: g.ρ } s' → KOff (Fa g.env) s s' → Q () s') : wpAny (model prog w) A (storeName g.env n v) Q E s := by
  refine storeC x.cx r (fun a h' fn sb => hΩ _ _ (fun b o nb e => (sb.2 b fun q => nb (q ▸ fn.imp id fun e => ⟨n, e⟩)).trans e) x.cx.om) hk fun s' a c' fn ko => ?_
  refine h s' ⟨c', x.k0.trans ko fun b o nb e => ⟨nb, fun q => ?_⟩, x.wl, x.wc⟩ (ko.mono fun b q => q ▸ fn.imp id fun e => ⟨n, e⟩)
  have q' : b = a := q
  subst q'
  rcases fn with fn | fn
  · rcases x.wl with z | z
    · exact nb (fn ▸ z)
    · rw [fn, z] at e; cases e
  · rcases x.wc n b fn with z | z
    · exact nb z
    · rw [z] at e; cases e
end
end Mine
end

section
open PySem PySem.W PyProof.Rows
namespace Mine
set_option linter.unusedVariables false

def nX : XS := fun _ => False

theorem bindL_not {kindOf : Str → Option NameKind} {n : Str} : ∀ (binds : List (Str × Value)) (m : Str → Option Value), n ∉ binds.map (·.1) → bindL kindOf binds m n = m n
  | [], m, _ => rfl
  | (k, v) :: r, m, h => by
    simp only [List.map_cons, List.mem_cons, not_or] at h
    unfold bindL
    rw [bindL_not r _ h.2]
    split
    · simp [h.1]
    · rfl
theorem bindC_not {kindOf : Str → Option NameKind} {n : Str} : ∀ (binds : List (Str × Value)) (m : Str → Option Value), n ∉ binds.map (·.1) → bindC kindOf binds m n = m n
  | [], m, _ => rfl
  | (k, v) :: r, m, h => by
    simp only [List.map_cons, List.mem_cons, not_or] at h
    unfold bindC
    rw [bindC_not r _ h.2]
    split
    · rfl
    · simp [h.1]
theorem bind_get {kindOf : Str → Option NameKind} {n : Str} {v : Value} : ∀ (binds : List (Str × Value)) (m cm : Str → Option Value), (binds.map (·.1)).Nodup → (n, v) ∈ binds →
    (kindOf n = some .local → bindL kindOf binds m n = some v) ∧ (kindOf n = some .cell → bindC kindOf binds cm n = some v)
  | [], _, _, _, h => by cases h
  | (k, u) :: r, m, cm, nd, h => by
    simp only [List.map_cons, List.nodup_cons] at nd
    rcases List.mem_cons.mp h with e | h
    · cases e
      refine ⟨fun hl => ?_, fun hc => ?_⟩
      · unfold bindL; rw [if_pos hl, bindL_not r _ nd.1]; simp
      · unfold bindC; rw [if_neg (by rw [hc]; decide), bindC_not r _ nd.1]; simp
    · unfold bindL bindC
      exact bind_get r _ _ nd.2 h

abbrev envF (qual : Str) (scope : Scope) (L fa : Addr) (cdv : Value) : Env := newEnv scope L mainGlobals (cellsFrom (L + 1) scope.names []) (qual ++ ".<locals>.") (some fa) cdv none builtinsNs

/-- the end of a function's body -/
def RetOk (s₀ : Shared) (X0 : XS) (r : Bd) (fl : Flow) (s' : Shared) : Prop := Keeps s₀ s' ∧ ∃ v, fl = .ret v ∧ r.rel X0 s'.heap v

theorem lookup_all2 {P : Value → Bd → Prop} : ∀ {binds : List (Str × Value)} {ρ : List (Str × Bd)} {n : Str} {b : Bd}, All2 (fun (nv : Str × Value) (nb : Str × Bd) => nv.1 = nb.1 ∧ P nv.2 nb.2) binds ρ → ρ.lookup n = some b → ∃ v, (n, v) ∈ binds ∧ P v b
  | _, _, n, b, .nil, e => by simp at e
  | _, _, n, b, .cons (a := (k, v)) (b := (k', c)) h t, e => by
    obtain ⟨rfl, hp⟩ := h
    simp only [List.lookup_cons] at e
    cases q : n == k with
    | true =>
      simp [q] at e; subst e
      obtain rfl : n = k := by simpa using q
      exact ⟨v, List.mem_cons_self, hp⟩
    | false =>
      simp [q] at e
      obtain ⟨v', hm, hp'⟩ := lookup_all2 t e
      exact ⟨v', List.mem_cons_of_mem _ hm, hp'⟩

section
variable {prog : Program} {w : World} {H0 : Heap} {K : Frag}

theorem fn_intro {fa : Addr} {n : Nat} {bs : List Bd} {kw : List (Str × Bd)} {r : Bd} {name qual : Str} {params : Arguments} {body : List Stmt} {scope : Scope} {dV kV doc pm cdv ct oc : Value} {an od : Option Addr} {osl : Array (Option Value)} {ρ : List (Str × Bd)}
    (W : W0 K H0) (ho : K.lookup fa = some ⟨oc, od, .func (fnOf name qual params body scope dV kV doc pm an cdv ct), osl⟩) (hcd : codeIn K cdv qual = true)
    (hbind : ∀ (s : Shared) (X : XS) (vs : List Value) (kvs : List (Str × Value)), Wd H0 X s.heap → All2 (fun v (b : Bd) => b.rel X s.heap v) vs bs → All2 (fun (kv : Str × Value) (kb : Str × Bd) => kv.1 = kb.1 ∧ kb.2.rel X s.heap kv.2) kvs kw →
      ∃ binds, BindsTo s (fnOf name qual params body scope dV kV doc pm an cdv ct) ⟨vs, kvs⟩ binds ∧ All2 (fun (nv : Str × Value) (nb : Str × Bd) => nv.1 = nb.1 ∧ nb.2.rel X s.heap nv.2) binds ρ)
    (hkind : (ρ.all fun y => scope.names.lookup y.1 == some .local || scope.names.lookup y.1 == some .cell) = true)
    (hnd : decide ((ρ.map (·.1)).Nodup) = true) (hnc : decide (((cellsFrom 0 scope.names []).map (·.1)).Nodup) = true)
    (hbody : ∀ (A : Around) (L : Addr) (X0 X : XS) (s₀ s : Shared), (∀ a, X0 a → X a) → Sx H0 nX s₀ ⟨A, X, envF qual scope L fa cdv, ρ, hTrue, n⟩ s →
      wpAny (model prog w) A (execs body (envF qual scope L fa cdv)) (RetOk s₀ X0 r) (fun _ _ => False) s)
    (hco : scope.isCoroutine = false) (hgen : scope.isGenerator = false) (hk : scope.kind = .function) : Fn prog w H0 fa (n + 1) bs kw r := by
  replace hnd := of_decide_eq_true hnd
  replace hnc := of_decide_eq_true hnc
  refine ⟨⟨_, _, W.kin _ _ ho, rfl⟩, ?_⟩
  intro A s X vs kvs R ok wd lv ha hka hR
  obtain ⟨binds, hb, hρ⟩ := hbind s X vs kvs wd ha hka
  have hnames : binds.map (·.1) = ρ.map (·.1) := by
    clear hb hbody hkind hnd hbind
    induction hρ with
    | nil => rfl
    | cons h _ ih => simp [h.1, ih]
  refine codeAny_call_function (by have := ok.dp; omega) (wd.keep _ _ (W.kin _ _ ho)) rfl hco hgen rfl (codeRec_of (fun a o e => wd.keep _ _ (W.kin _ _ e)) hcd) (hb _ _ _ _ ?_)
  have hkb : ∀ m, ∀ x ∈ binds, scope.names.lookup x.1 = some .local ∨ (scope.names.lookup x.1 = some .cell ∧ ((cellsFrom m scope.names []).lookup x.1).isSome = true) := by
    refine kindsX ?_
    rw [List.all_eq_true] at hkind ⊢
    intro x hx
    have : x.1 ∈ ρ.map (·.1) := hnames ▸ List.mem_map_of_mem hx
    obtain ⟨y, hy, e⟩ := List.mem_map.mp this
    have := hkind y hy
    rw [e] at this; exact this
  refine wpAny_newFunctionEnv_cells hk (hkb _) fun env he s' x => ?_
  have lim : s'.heap.NoLimit := (W.lim.keeps wd.keep).keeps x.toInCall.keep
  subst he
  refine ⟨lim, codeAny_func ?_⟩
  have kp : Keeps s s' := x.done
  have hcellN : ((cellsFrom (s.heap.objs.size + 1) scope.names []).map (·.1)).Nodup := cellsFrom_names scope.names 0 (s.heap.objs.size + 1) [] [] rfl ▸ hnc
  let X' : XS := fun a => X a ∨ s.heap.objs.size ≤ a ∧ (a = s.heap.objs.size ∨ ∃ n, (cellsFrom (s.heap.objs.size + 1) scope.names []).lookup n = some a)
  have hXX : ∀ b o, s.heap.get? b = some o → ¬ X b → ¬ X' b := fun b o e nb q => by
    rcases q with q | q
    · exact nb q
    · exact absurd (Heap.lt_size e) (Nat.not_lt.mpr q.1)
  have kx : Kx X X' s.heap s'.heap := fun b o nb e => ⟨hXX b o e nb, x.toInCall.keep b o e⟩
  have fresh : ∀ a, s.heap.objs.size ≤ a → s.heap.get? a = none := fun a h => by
    cases q : s.heap.get? a with
    | none => rfl
    | some o => exact absurd (Heap.lt_size q) (Nat.not_lt.mpr h)
  have cge : ∀ n c, (cellsFrom (s.heap.objs.size + 1) scope.names []).lookup n = some c → s.heap.objs.size ≤ c := fun n c e => Nat.le_of_lt (x.above n c (mem_of_lookup e))
  have sx : Sx H0 nX s ⟨A.deeper (envF qual scope s.heap.objs.size fa cdv), X', envF qual scope s.heap.objs.size fa cdv, ρ, hTrue, n⟩ s' := by
    refine ⟨⟨⟨hk, rfl, rfl, .inr ⟨Nat.le_refl _, .inl rfl⟩, ⟨_, x.toInCall.ns, fun y b e => ?_⟩, fun y c e => ?_, x.apart⟩, wd.kx kx, ?_, trivial, ok.deeper _⟩, KOff.of_keeps kp, .inr (fresh _ (Nat.le_refl _)), fun y c e => .inr (fresh _ (cge y c e))⟩
    · obtain ⟨v, hm, hr⟩ := lookup_all2 (P := fun v (b : Bd) => b.rel X s.heap v) hρ e
      have g := bind_get (kindOf := (envF qual scope s.heap.objs.size fa cdv).kindOf) binds (fun _ => none) (fun _ => none) (hnames ▸ hnd) hm
      refine ⟨v, b.mono hr kx, ?_⟩
      rcases hkb (s.heap.objs.size + 1) _ hm with h1 | ⟨h1, h2⟩
      · exact .inl ⟨h1, g.1 h1⟩
      · obtain ⟨c, hc⟩ := Option.isSome_iff_exists.mp h2
        exact .inr ⟨.inl h1, c, hc, g.2 h1 ▸ x.cell y c hc⟩
    · exact ⟨.inr ⟨cge y c e, .inr ⟨y, e⟩⟩, _, x.cell y c e⟩
    · intro a q
      rcases q with q | ⟨_, q | ⟨y, q⟩⟩
      · obtain ⟨o, e⟩ := lv a q; exact ⟨o, x.toInCall.keep a o e⟩
      · subst q; obtain ⟨o, _, _, e, _⟩ := x.toInCall.ns; exact ⟨o, e⟩
      · obtain ⟨o, e, _⟩ := x.cell y a q; exact ⟨o, e⟩
  refine wpAny_mono (hbody _ _ X X' s s' (fun a q => .inl q) sx) (fun fl s'' q => ?_) fun _ _ e => e.elim
  obtain ⟨kk, v, rfl, hr⟩ := q
  exact hR v s'' kk hr
end

section
variable {prog : Program} {w : World} {H0 : Heap} {Z X0 : XS} {s₀ s : Shared} {g : Γ} {pos p : Pos} {e : Expr} {b r : Bd} {E : Value → Shared → Prop} {Q : Flow → Shared → Prop} {rest : List Stmt}

theorem retOk {v : Value} {s' : Shared} (k : Keeps s₀ s') (q : r.rel X0 s'.heap v) : RetOk s₀ X0 r (.ret v) s' := ⟨k, v, rfl, q⟩
theorem st_returnG (x : Sx H0 nX s₀ g s) (h : Ev prog w H0 g g.X e r) (hX : ∀ a, X0 a → g.X a) (hQ : ∀ v s', Keeps s₀ s' → r.rel X0 s'.heap v → Q (.ret v) s') :
    wpAny (model prog w) g.A (execs (.Return (some e) pos :: rest) g.env) Q E s := by
  refine wpAny_execs_cons (wpAny_Return_some (h.use x.cx fun v s' k c q => ?_))
  exact hQ v s' ((x.keep k).k0.keeps fun _ _ _ => id) (r.mono q fun b o n e => ⟨fun z => n (hX b z), e⟩)
theorem Ev.cast {Y : XS} {b' : Bd} (h : Ev prog w H0 g Y e b) (q : b = b') : Ev prog w H0 g Y e b' := q ▸ h

theorem st_assignG {n : Str} {np : Pos} (x : Sx H0 Z s₀ g s) (h : Ev prog w H0 g g.X e b) (hΩ : g.Ω.StOff (Fa g.env))
    (hk : g.env.kindOf n = some .local ∨ (g.env.kindOf n = some .cell ∧ (g.env.cells.lookup n).isSome = true))
    (hs : swapsWith e (some (.Name n np)) pos.line g.env = pure false)
    (k : ∀ s', Sx H0 Z s₀ { g with ρ := (n, b) :: g.ρ } s' → wpAny (model prog w) g.A (execs rest g.env) Q E s') :
    wpAny (model prog w) g.A (execs (.Assign [.Name n np] e pos :: rest) g.env) Q E s := by
  refine wpAny_execs_cons (wpAny_Assign_Name (h.use x.cx fun v s' kk c q => ?_) hs)
  exact store (x.keep kk) q hΩ hk fun s'' x'' _ => k s'' x''

theorem st_ifG {c : Bool} {test : Expr} {body orelse : List Stmt} (x : Sx H0 Z s₀ g s) (h : Ts prog w H0 g test c)
    (k1 : c = true → ∀ s', Sx H0 Z s₀ g s' → wpAny (model prog w) g.A (execs body g.env) (fun f s' => match f with | .next => wpAny (model prog w) g.A (execs rest g.env) Q E s' | f => Q f s') E s')
    (k2 : c = false → ∀ s', Sx H0 Z s₀ g s' → wpAny (model prog w) g.A (execs orelse g.env) (fun f s' => match f with | .next => wpAny (model prog w) g.A (execs rest g.env) Q E s' | f => Q f s') E s') :
    wpAny (model prog w) g.A (execs (.If test body orelse pos :: rest) g.env) Q E s := by
  refine wpAny_execs_cons (wpAny_If (h.use x.cx fun s' k c' => ?_))
  cases c with
  | true => exact k1 rfl s' (x.keep k)
  | false => exact k2 rfl s' (x.keep k)

theorem st_nilG (k : Q .next s) : wpAny (model prog w) g.A (execs [] g.env) Q E s := wpAny_execs_nil k
theorem st_continueG (k : Q .cont s) : wpAny (model prog w) g.A (execs (.Continue pos :: rest) g.env) Q E s := wpAny_execs_cons (wpAny_Continue k)
theorem st_breakG (k : Q .brk s) : wpAny (model prog w) g.A (execs (.Break pos :: rest) g.env) Q E s := wpAny_execs_cons (wpAny_Break k)
theorem st_assertG {test : Expr} {msg : Option Expr} (x : Sx H0 Z s₀ g s) (h : Ts prog w H0 g test true) (k : ∀ s', Sx H0 Z s₀ g s' → wpAny (model prog w) g.A (execs rest g.env) Q E s') :
    wpAny (model prog w) g.A (execs (.Assert test msg pos :: rest) g.env) Q E s :=
  wpAny_execs_cons (wpAny_Assert_holds (h.use x.cx fun s' kk c => ⟨rfl, k s' (x.keep kk)⟩))
end

section
variable {prog : Program} {w : World} {H0 : Heap} {Z X0 X : XS} {s₀ s : Shared} {A : Around} {env : Env} {ρ : List (Str × Bd)} {Ω : Hp} {m : Nat} {pos p : Pos} {e : Expr} {b r : Bd} {E : Value → Shared → Prop} {Q : Flow → Shared → Prop} {rest : List Stmt}
theorem st_returnY {Y : XS} (x : Sx H0 nX s₀ ⟨A, X, env, ρ, Ω, m⟩ s) (h : Ev prog w H0 ⟨A, X, env, ρ, Ω, m⟩ Y e r) (hX : ∀ a, X0 a → Y a) (hQ : ∀ v s', Keeps s₀ s' → r.rel X0 s'.heap v → Q (.ret v) s') :
    wpAny (model prog w) A (execs (.Return (some e) pos :: rest) env) Q E s := by
  refine wpAny_execs_cons (wpAny_Return_some (h.use x.cx fun v s' k c q => ?_))
  exact hQ v s' ((x.keep k).k0.keeps fun _ _ _ => id) (r.mono q fun b o n e => ⟨fun z => n (hX b z), e⟩)
theorem st_return (x : Sx H0 nX s₀ ⟨A, X, env, ρ, Ω, m⟩ s) (h : Ev prog w H0 ⟨A, X, env, ρ, Ω, m⟩ X e r) (hX : ∀ a, X0 a → X a) (hQ : ∀ v s', Keeps s₀ s' → r.rel X0 s'.heap v → Q (.ret v) s') :
    wpAny (model prog w) A (execs (.Return (some e) pos :: rest) env) Q E s := st_returnG x h hX hQ
theorem st_assign {n : Str} {np : Pos} (x : Sx H0 Z s₀ ⟨A, X, env, ρ, Ω, m⟩ s) (h : Ev prog w H0 ⟨A, X, env, ρ, Ω, m⟩ X e b) (hΩ : Ω.StOff (Fa env))
    (hk : env.kindOf n = some .local ∨ (env.kindOf n = some .cell ∧ (env.cells.lookup n).isSome = true))
    (hs : swapsWith e (some (.Name n np)) pos.line env = pure false)
    (k : ∀ s', Sx H0 Z s₀ ⟨A, X, env, (n, b) :: ρ, Ω, m⟩ s' → wpAny (model prog w) A (execs rest env) Q E s') :
    wpAny (model prog w) A (execs (.Assign [.Name n np] e pos :: rest) env) Q E s := st_assignG x h hΩ hk hs k
theorem st_if {c : Bool} {test : Expr} {body orelse : List Stmt} (x : Sx H0 Z s₀ ⟨A, X, env, ρ, Ω, m⟩ s) (h : Ts prog w H0 ⟨A, X, env, ρ, Ω, m⟩ test c)
    (k1 : c = true → ∀ s', Sx H0 Z s₀ ⟨A, X, env, ρ, Ω, m⟩ s' → wpAny (model prog w) A (execs body env) (fun f s' => match f with | .next => wpAny (model prog w) A (execs rest env) Q E s' | f => Q f s') E s')
    (k2 : c = false → ∀ s', Sx H0 Z s₀ ⟨A, X, env, ρ, Ω, m⟩ s' → wpAny (model prog w) A (execs orelse env) (fun f s' => match f with | .next => wpAny (model prog w) A (execs rest env) Q E s' | f => Q f s') E s') :
    wpAny (model prog w) A (execs (.If test body orelse pos :: rest) env) Q E s := st_ifG x h k1 k2
theorem st_nil (k : Q .next s) : wpAny (model prog w) A (execs [] env) Q E s := wpAny_execs_nil k
theorem st_continue (k : Q .cont s) : wpAny (model prog w) A (execs (.Continue pos :: rest) env) Q E s := wpAny_execs_cons (wpAny_Continue k)
theorem st_break (k : Q .brk s) : wpAny (model prog w) A (execs (.Break pos :: rest) env) Q E s := wpAny_execs_cons (wpAny_Break k)
theorem st_assert {test : Expr} {msg : Option Expr} (x : Sx H0 Z s₀ ⟨A, X, env, ρ, Ω, m⟩ s) (h : Ts prog w H0 ⟨A, X, env, ρ, Ω, m⟩ test true) (k : ∀ s', Sx H0 Z s₀ ⟨A, X, env, ρ, Ω, m⟩ s' → wpAny (model prog w) A (execs rest env) Q E s') :
    wpAny (model prog w) A (execs (.Assert test msg pos :: rest) env) Q E s := st_assertG x h k

theorem exec_of_execs {st : Stmt} {Q : Flow → Shared → Prop} (h : wpAny (model prog w) A (execs [st] env) Q E s) : wpAny (model prog w) A (exec st env) Q E s := fun Γ p hΓ => by
  have h' := h Γ p hΓ
  rw [execs_cons, Sem.wp_bind'] at h'
  refine Sem.wp_mono (model prog w) Γ _ (fun f p' s' q => ?_) (fun _ _ _ q => q) _ _ h'
  cases f <;> exact q
/-- one statement up to a meeting point, then the rest -/
theorem st_seq {st : Stmt} (J : Shared → Prop) (h1 : wpAny (model prog w) A (execs [st] env) (fun fl s' => fl = .next ∧ J s') (fun _ _ => False) s) (h2 : ∀ s', J s' → wpAny (model prog w) A (execs rest env) Q E s') :
    wpAny (model prog w) A (execs (st :: rest) env) Q E s := by
  refine wpAny_execs_cons (wpAny_mono (exec_of_execs h1) (fun fl s' q => ?_) fun _ _ q => q.elim)
  obtain ⟨rfl, q⟩ := q
  exact h2 s' q

theorem st_join {st : Stmt} (x : Sx H0 Z s₀ ⟨A, X, env, ρ, Ω, m⟩ s) (ρ' : List (Str × Bd)) (Ω' : Hp) (h1 : wpAny (model prog w) A (execs [st] env) (fun fl s' => fl = .next ∧ Sx H0 Z s₀ ⟨A, X, env, ρ', Ω', m⟩ s') (fun _ _ => False) s)
    (h2 : ∀ s', Sx H0 Z s₀ ⟨A, X, env, ρ', Ω', m⟩ s' → wpAny (model prog w) A (execs rest env) Q E s') : wpAny (model prog w) A (execs (st :: rest) env) Q E s := st_seq _ h1 h2
end
end Mine
end

section
open PySem PySem.W PyProof.Rows
namespace Mine
set_option linter.unusedVariables false

theorem isList_push_new {h : Heap} {vs : Array Value} : (h.push { cls := .type "list", data := .seq vs }).IsList h.objs.size vs := ⟨_, Heap.get?_push_size _ rfl, rfl, _, rfl⟩

section
variable {prog : Program} {w : World} {H0 : Heap} {K : Frag} {g : Γ} {Y Y1 Y2 : XS} {e1 e2 e value slice : Expr} {b1 b2 b r : Bd} {pos p : Pos} {α β : Type} {t : Ty α} {u : Ty β}

/-- a new list of related items -/
theorem newList_rel {s : Shared} {vs : List Value} {xs : List α} (c : Cx H0 g s) (h : All2 (fun v x => t.rel g.X s.heap v x) vs xs) :
    (tList t).rel g.X (s.heap.push { cls := .type "list", data := .seq vs.toArray }) (.ref s.heap.objs.size) xs :=
  ⟨_, vs, rfl, c.live.fresh, isList_push_new, h.imp fun _ _ q => t.mono q (Kx.of_keep fun b o e => Heap.get?_push_of_some _ e)⟩

theorem ev_itemL {xs : List α} {i : Int} {x : α} (hl : Ev prog w H0 g Y1 value ((tList t).at xs)) (hi : Ev prog w H0 g Y2 slice (tInt.at i)) (h0 : 0 ≤ i) (hz : i < 2 ^ 63) (hx : xs[i.toNat]? = some x)
    (hs : ∀ o i, subscripted slice false o i = operate [o, i] (getItem o i)) (ht : ∀ o r, letTemporaryGo value o r = pure ()) : Ev prog w H0 g Y1 (.Subscript value slice pos) (t.at x) := by
  intro s c E
  refine Subscript_ (hl.use c fun v1 s1 k1 c1 r1 => hi.use c1 fun v2 s2 k2 c2 r2 => ?_)
  obtain ⟨a, vs, rfl, n, l, r⟩ := ((tList t).at xs).keep r1 k2
  obtain ⟨tk, rfl⟩ := r2
  obtain ⟨v, hv, hr⟩ := All2.get' r hx
  exact subscriptTail_builtin l.typeIs slot_list_getitem.lookup (wpAny_getItem_list l h0 hz (by simpa using hv) ⟨k1.trans k2, hr⟩) (hs _ _) (ht _)
theorem ev_itemB {xs : List UInt8} {i : Int} (hl : Ev prog w H0 g Y1 value (tBytes.at xs)) (hi : Ev prog w H0 g Y2 slice (tInt.at i)) (h0 : 0 ≤ i) (h1 : i < xs.length) (hz : xs.length ≤ 16777216)
    (hs : ∀ o i, subscripted slice false o i = operate [o, i] (getItem o i)) (ht : ∀ o r, letTemporaryGo value o r = pure ()) : Ev prog w H0 g g.X (.Subscript value slice pos) (tInt.at (xs.getD i.toNat 0).toNat) := by
  intro s c E
  refine Subscript_ (hl.use c fun v1 s1 k1 c1 r1 => hi.use c1 fun v2 s2 k2 c2 r2 => ?_)
  obtain ⟨t1, rfl⟩ := r1
  obtain ⟨t2, rfl⟩ := r2
  exact subscriptTail_builtin (typeIs_bytes _ _ _) FB.slot_bytes_getitem.lookup (getItem_bytes (by omega) h0 h1 ⟨(k1.trans k2).trans (Keeps.tok _ _), _, rfl⟩) (hs _ _) (ht _)
theorem ev_item2a {x : α × β} {i : Int} (hl : Ev prog w H0 g Y1 value ((tTwo t u).at x)) (hi : Ev prog w H0 g Y2 slice (tInt.at 0))
    (hs : ∀ o i, subscripted slice false o i = operate [o, i] (getItem o i)) (ht : ∀ o r, letTemporaryGo value o r = pure ()) : Ev prog w H0 g Y1 (.Subscript value slice pos) (t.at x.1) := by
  intro s c E
  refine Subscript_ (hl.use c fun v1 s1 k1 c1 r1 => hi.use c1 fun v2 s2 k2 c2 r2 => ?_)
  obtain ⟨a, va, vb, rfl, n, l, q1, q2⟩ := ((tTwo t u).at x).keep r1 k2
  obtain ⟨tk, rfl⟩ := r2
  exact subscriptTail_builtin l.typeIs slot_list_getitem.lookup (wpAny_getItem_list (x := va) l (by omega) (by omega) (by simp) ⟨k1.trans k2, q1⟩) (hs _ _) (ht _)

/-- a part of a slice -/
def EvP (prog : Program) (w : World) (H0 : Heap) (g : Γ) (o : Option Expr) (k : Option Int) : Prop := ∀ s, Cx H0 g s → ∀ E, wpAny (model prog w) g.A (evalPart o g.env) (fun v s' => Keeps s s' ∧ IsPart v k) E s
theorem evP_none : EvP prog w H0 g none none := fun s _ _ => wpAny_pure ⟨Keeps.refl s, .none⟩
theorem evP_some {i : Int} (h : Ev prog w H0 g Y e (tInt.at i)) : EvP prog w H0 g (some e) (some i) := fun s c E => h.use c fun v s' k _ r => by obtain ⟨t, rfl⟩ := r; exact ⟨k, .int i t⟩

/-- what a slice picks -/
def pickL (xs : List α) (lo hi st : Option Int) : List α :=
  (sliceRange (sliceBounds lo hi st xs.length).1 (sliceBounds lo hi st xs.length).2.1 (sliceBounds lo hi st xs.length).2.2).filterMap (xs[·]?)
theorem pick_all2 {R : α → β → Prop} {vs : List α} {xs : List β} (h : All2 R vs xs) : ∀ l : List Nat, All2 R (l.filterMap (vs[·]?)) (l.filterMap (xs[·]?))
  | [] => .nil
  | i :: l => by
    have ih := pick_all2 h l
    cases hv : vs[i]? with
    | none =>
      have : xs[i]? = none := by have := h.length; simp at hv ⊢; omega
      simp [hv, this, ih]
    | some v =>
      obtain ⟨x, hx, hr⟩ := h.get hv
      simp [hv, hx]
      exact .cons hr ih
theorem slicePick_all2 {R : Value → β → Prop} {vs : List Value} {xs : List β} (h : All2 R vs xs) (lo hi st : Option Int) : All2 R (slicePick vs.toArray lo hi st).toList (pickL xs lo hi st) := by
  unfold slicePick pickL
  rw [← h.length]
  simpa using pick_all2 h _

theorem ev_sliceL {xs : List α} {lower upper : Option Expr} {lo hi : Option Int} (hl : Ev prog w H0 g g.X value ((tList t).at xs)) (h1 : EvP prog w H0 g lower lo) (h2 : EvP prog w H0 g upper hi)
    (hz : xs.length ≤ 16777216) (ht : ∀ o r, letTemporaryGo value o r = pure ()) : Ev prog w H0 g g.X (.Subscript value (.Slice lower upper none p) pos) ((tList t).at (pickL xs lo hi none)) := by
  intro s c E
  refine wpAny_Subscript_list_slice (hl.use c fun v1 s1 k1 c1 r1 => wpAny_mono (h1 s1 c1 E) (fun vl s2 q2 => wpAny_mono (h2 s2 (c1.keep q2.1) E) (fun vu s3 q3 => ?_) fun _ _ e => e) fun _ _ e => e) ht
  have k13 := q2.1.trans q3.1
  obtain ⟨a, vs, rfl, n, l, r⟩ := ((tList t).at xs).keep r1 k13
  refine ⟨a, vs.toArray, lo, hi, rfl, l, by rw [sizeLine_eq]; have := r.length; simp; omega, q2.2, q3.2, ?_⟩
  have c3 := c1.keep k13
  have kp := Keeps.push s3 { cls := .type "slice", data := .fields #[vl, vu, .none] }
  have c4 := c3.keep kp
  have := newList_rel (t := t) c4 (vs := (slicePick vs.toArray lo hi none).toList) (xs := pickL xs lo hi none) ((slicePick_all2 r lo hi none).imp fun v x q => (t.at x).keep q kp)
  simp only [Heap.size_push, Array.toArray_toList] at this
  exact ⟨((k1.trans k13).trans kp).trans (Keeps.push _ _), this⟩
theorem ev_sliceL3 {xs : List α} {lower upper : Option Expr} {st : Expr} {lo hi : Option Int} {k : Int} (hl : Ev prog w H0 g g.X value ((tList t).at xs)) (h1 : EvP prog w H0 g lower lo) (h2 : EvP prog w H0 g upper hi) (h3 : EvP prog w H0 g (some st) (some k))
    (hk : k ≠ 0) (hz : xs.length ≤ 16777216) (ht : ∀ o r, letTemporaryGo value o r = pure ()) : Ev prog w H0 g g.X (.Subscript value (.Slice lower upper (some st) p) pos) ((tList t).at (pickL xs lo hi (some k))) := by
  intro s c E
  refine wpAny_Subscript_Slice_step (T := "list") list_getitem_lookup (hl.use c fun v1 s1 k1 c1 r1 => wpAny_Slice (wpAny_mono (h1 s1 c1 E) (fun vl s2 q2 => wpAny_mono (h2 s2 (c1.keep q2.1) E) (fun vu s3 q3 =>
    wpAny_mono (h3 s3 ((c1.keep q2.1).keep q3.1) E) (fun vk s4 q4 => ?_) fun _ _ e => e) fun _ _ e => e) fun _ _ e => e)) ht
  have k14 := (q2.1.trans q3.1).trans q4.1
  have kp := Keeps.push s4 { cls := .type "slice", data := .fields #[vl, vu, vk] }
  obtain ⟨a, vs, rfl, n, l, r⟩ := ((tList t).at xs).keep r1 (k14.trans kp)
  refine ⟨l.typeIs, wpAny_getItem_list_slice l (Heap.IsSliceOf.new ..) q2.2 q3.2 q4.2 (by simpa using hk) ?_ (by rw [sizeLine_eq]; have := r.length; simp; omega)⟩
  have c5 := (c1.keep k14).keep kp
  have := newList_rel (t := t) c5 (vs := (slicePick vs.toArray lo hi (some k)).toList) (xs := pickL xs lo hi (some k)) (slicePick_all2 r lo hi (some k))
  simp only [Array.toArray_toList] at this
  exact ⟨((k1.trans k14).trans kp).trans (Keeps.push _ _), this⟩

theorem ev_sliceB {xs : List UInt8} {lower upper : Option Expr} {lo hi : Option Int} (hl : Ev prog w H0 g Y1 value (tBytes.at xs)) (h1 : EvP prog w H0 g lower lo) (h2 : EvP prog w H0 g upper hi)
    (hz : xs.length ≤ 16777216) (ht : ∀ o r, letTemporaryGo value o r = pure ()) : Ev prog w H0 g g.X (.Subscript value (.Slice lower upper none p) pos) (tBytes.at (KBy.picked xs.toArray lo hi).toList) := by
  intro s c E
  refine wpAny_Subscript_Slice (T := "bytes") FB.slot_bytes_getitem.lookup (hl.use c fun v1 s1 k1 c1 r1 => wpAny_Slice (wpAny_mono (h1 s1 c1 E) (fun vl s2 q2 => wpAny_mono (h2 s2 (c1.keep q2.1) E) (fun vu s3 q3 => ?_) fun _ _ e => e) fun _ _ e => e)) ht
  rw [evalPart_none]
  obtain ⟨tk, rfl⟩ := r1
  refine wpAny_pure ⟨typeIs_bytes _ _ _, ?_⟩
  refine getItem_meets (typeIs_bytes _ _ _) (by decide) FB.slot_bytes_getitem FB.entry_bytes_getitem (FB.args_bytes_getitem_2 _ _) (KBc.meets_slice2 xs.toArray tk _ q2.2 q3.2) ⟨Heap.IsSliceOf.new _ _ _ _, ?_, fun t' k => ?_⟩
  · exact Nat.le_trans (KBc.size_picked_le _ lo hi) (by rw [sizeLine_eq]; simpa using hz)
  · exact ⟨(((k1.trans q2.1).trans q3.1).trans (Keeps.push s3 { cls := .type "slice", data := .fields #[vl, vu, .none] })).trans (Keeps.tok _ k), t', by simp⟩

theorem ev_listT {es : List Expr} {xs : List α} (h : Evs prog w H0 g g.X pos es (xs.map t.at)) (hz : xs.length ≤ 16777216) : Ev prog w H0 g g.X (.List es pos) ((tList t).at xs) := by
  intro s c E
  refine List_ (wpAny_mono (h s c E) (fun vs s1 q => ?_) fun _ _ e => e)
  have r : All2 (fun v x => t.rel g.X s1.heap v x) vs xs := by
    obtain ⟨_, q⟩ := q
    clear h hz
    induction xs generalizing vs with
    | nil => cases q; exact .nil
    | cons x xs ih => cases q with | cons h q => exact .cons h (ih _ q)
  refine wpAny_newObj_type ⟨q.1.trans (Keeps.push _ _), newList_rel (c.keep q.1) r⟩ ?_
  show vs.toArray.size ≤ sizeLine
  rw [sizeLine_eq]; have := r.length; simp; omega
theorem ev_list2 {x : α} {y : β} (h1 : Ev prog w H0 g g.X e1 (t.at x)) (h2 : Ev prog w H0 g g.X e2 (u.at y)) (he1 : ∀ env, starEach [e1, e2] env = (false, eval e1 env) :: starEach [e2] env)
    (he2 : ∀ env, starEach [e2] env = (false, eval e2 env) :: starEach [] env) : Ev prog w H0 g g.X (.List [e1, e2] pos) ((tTwo t u).at (x, y)) := by
  intro s c E
  refine List_ (wpAny_mono (evs_cons h1 (evs_cons h2 evs_nil he2) he1 s c E) (fun vs s1 q => ?_) fun _ _ e => e)
  obtain ⟨k, _ | ⟨q1, _ | ⟨q2, _ | _⟩⟩⟩ := q
  have c1 := c.keep k
  refine wpAny_newObj_type ⟨k.trans (Keeps.push _ _), _, _, _, rfl, c1.live.fresh, isList_push_new, (t.at x).mono q1 (Kx.of_keep fun b o e => Heap.get?_push_of_some _ e), (u.at y).mono q2 (Kx.of_keep fun b o e => Heap.get?_push_of_some _ e)⟩ ?_
  show (2 : Nat) ≤ sizeLine
  rw [sizeLine_eq]; omega

/-- a built-in function called -/
theorem ev_callB {f : Str} {id : String} {es : List Expr} {bs : List Bd} (hf : Ev prog w H0 g Y1 (.Name f p) (bVal (.builtin id))) (hs : Evs prog w H0 g Y2 pos (e :: es) bs)
    (hc : ∀ s vs E, Cx H0 g s → All2 (fun v (b : Bd) => b.rel Y2 s.heap v) vs bs → wpAny (model prog w) g.A (call (.builtin id) vs) (fun v s' => Keeps s s' ∧ r.rel g.X s'.heap v) E s)
    (he : ∀ env, starEach (e :: es) env = (false, eval e env) :: starEach es env) (hp : ∀ env, (backTo pos (starEach (e :: es) env)).any (·.1) = false) : Ev prog w H0 g g.X (.Call (.Name f p) (e :: es) [] pos) r := by
  intro s c E
  refine wpAny_Call_Name_kw (hf.use c fun v s1 k1 c1 r1 => ?_)
  obtain rfl : v = .builtin id := r1
  refine Calls.callWith_builtin (hp _) (evalArgs_of he ?_)
  refine wpAny_mono (hs s1 c1 E) (fun vs s2 q => ?_) fun _ _ e => e
  exact wpAny_mono (hc s2 vs E (c1.keep q.1) q.2) (fun v s3 q3 => ⟨(k1.trans q.1).trans q3.1, q3.2⟩) fun _ _ e => e
theorem ev_callT {f : Str} {T : String} {es : List Expr} {bs : List Bd} (hf : Ev prog w H0 g Y1 (.Name f p) (bVal (.type T))) (hs : Evs prog w H0 g Y2 pos (e :: es) bs)
    (hc : ∀ s vs E, Cx H0 g s → All2 (fun v (b : Bd) => b.rel Y2 s.heap v) vs bs → wpAny (model prog w) g.A (call (.type T) vs) (fun v s' => Keeps s s' ∧ r.rel g.X s'.heap v) E s)
    (he : ∀ env, starEach (e :: es) env = (false, eval e env) :: starEach es env) (hp : ∀ env, (backTo pos (starEach (e :: es) env)).any (·.1) = false) : Ev prog w H0 g g.X (.Call (.Name f p) (e :: es) [] pos) r := by
  intro s c E
  refine wpAny_Call_Name_kw (hf.use c fun v s1 k1 c1 r1 => ?_)
  obtain rfl : v = .type T := r1
  refine PySem.callWith_type (hp _) (evalArgs_of he ?_)
  refine wpAny_mono (hs s1 c1 E) (fun vs s2 q => ?_) fun _ _ e => e
  exact wpAny_mono (hc s2 vs E (c1.keep q.1) q.2) (fun v s3 q3 => ⟨(k1.trans q.1).trans q3.1, q3.2⟩) fun _ _ e => e

theorem cb_lenL {s : Shared} {vs : List Value} {E : Value → Shared → Prop} {xs : List α} (hz : xs.length ≤ 16777216) (h : All2 (fun v (b : Bd) => b.rel Y2 s.heap v) vs [(tList t).at xs]) :
    wpAny (model prog w) g.A (call (.builtin "len") vs) (fun v s' => Keeps s s' ∧ (tInt.at (xs.length : Int)).rel Y s'.heap v) E s := by
  obtain _ | ⟨⟨a, us, rfl, n, l, r⟩, _ | _⟩ := h
  have := r.length
  exact Calls.call_len_list l (by simp; omega) ⟨Keeps.tok _ _, s.toks + 1, by simp [this]⟩
theorem cb_lenB {s : Shared} {vs : List Value} {E : Value → Shared → Prop} {xs : List UInt8} (hz : xs.length ≤ 16777216) (h : All2 (fun v (b : Bd) => b.rel Y2 s.heap v) vs [tBytes.at xs]) :
    wpAny (model prog w) g.A (call (.builtin "len") vs) (fun v s' => Keeps s s' ∧ (tInt.at (xs.length : Int)).rel Y s'.heap v) E s := by
  obtain _ | ⟨⟨a, rfl⟩, _ | _⟩ := h
  exact len_bytes (by simp; omega) ⟨Keeps.tok _ _, s.toks + 1, by simp⟩
/-- bytes(list of ints) -/
theorem ints_all2 {X : XS} {h : Heap} : ∀ {vs : List Value} {ns : List Int}, All2 (fun v x => tInt.rel X h v x) vs ns → IntsAre vs ns
  | _, _, .nil => .nil
  | _, _, .cons ⟨t, e⟩ r => e ▸ .cons _ _ (ints_all2 r)
theorem byteArr_list (ns : List Int) : (byteArr ns).toList = ns.map fun n => n.toNat.toUInt8 := by simp [byteArr]
theorem cb_bytes {s : Shared} {vs : List Value} {E : Value → Shared → Prop} {ns : List Int} (c : Cx H0 g s) (hr : ∀ n ∈ ns, 0 ≤ n ∧ n < 256) (hz : ns.length ≤ 16777216) (h : All2 (fun v (b : Bd) => b.rel Y2 s.heap v) vs [(tList tInt).at ns]) :
    wpAny (model prog w) g.A (call (.type "bytes") vs) (fun v s' => Keeps s s' ∧ (tBytes.at (ns.map fun n => n.toNat.toUInt8)).rel Y s'.heap v) E s := by
  obtain _ | ⟨⟨a, us, rfl, n, l, r⟩, _ | _⟩ := h
  have hl := r.length
  refine call_bytes_ints l (ints_all2 r) hr (by rw [sizeLine_eq]; omega) c.ok.hh fun h' tk k hk => ⟨⟨h', k, rfl, hk⟩, tk, rfl⟩
end
end Mine
end

section
open PySem PySem.W PyProof.Rows
namespace Mine
set_option linter.unusedVariables false

theorem Frame.off {X Z : XS} {env : Env} {ρ : List (Str × Bd)} {h h' : Heap} (x : Frame X env ρ h) (k : ∀ b o, ¬ Z b → h.get? b = some o → h'.get? b = some o) (hZ : ∀ a, Z a → X a) (hF : ∀ a, Z a → ¬ Fa env a) : Frame X env ρ h' := by
  obtain ⟨m, hn, hv⟩ := x.vars
  have kx : Kx X X h h' := fun b o n e => ⟨n, k b o (fun z => n (hZ b z)) e⟩
  refine ⟨x.kind, x.gl, x.bi, x.xl, ⟨m, hn.at' fun o e => k _ o (fun z => hF _ z (.inl rfl)) e, fun n b e => ?_⟩, fun n c e => ?_, x.apart⟩
  · obtain ⟨v, r, c⟩ := hv n b e
    refine ⟨v, b.mono r kx, ?_⟩
    rcases c with c | ⟨q, c, hc, hd⟩
    · exact .inl c
    · exact .inr ⟨q, c, hc, isCell_at hd fun o e => k _ o (fun z => hF _ z (.inr ⟨n, hc⟩)) e⟩
  · obtain ⟨q, v, hv⟩ := x.cells n c e
    exact ⟨q, v, isCell_at hv fun o e' => k _ o (fun z => hF _ z (.inr ⟨n, e⟩)) e'⟩
theorem Frame.sub {X : XS} {env : Env} {ρ ρ' : List (Str × Bd)} {h : Heap} (x : Frame X env ρ h) (hs : ∀ n b, ρ'.lookup n = some b → ρ.lookup n = some b) : Frame X env ρ' h := by
  obtain ⟨m, hn, hv⟩ := x.vars
  exact ⟨x.kind, x.gl, x.bi, x.xl, ⟨m, hn, fun n b e => hv n b (hs n b e)⟩, x.cells, x.apart⟩
theorem Frame.fa_kind {X : XS} {env : Env} {ρ : List (Str × Bd)} {h : Heap} (x : Frame X env ρ h) {a : Addr} (fa : Fa env a) : ∃ o, h.get? a = some o ∧ ((∃ es ep, o.data = .dict es ep) ∨ ∃ v, o.data = .cell v) := by
  rcases fa with rfl | ⟨n, e⟩
  · obtain ⟨m, ⟨o, es, ep, ho, hd, _⟩, _⟩ := x.vars
    exact ⟨o, ho, .inl ⟨es, ep, hd⟩⟩
  · obtain ⟨_, v, o, ho, hd⟩ := x.cells n a e
    exact ⟨o, ho, .inr ⟨v, hd⟩⟩
theorem Frame.not_fields {X : XS} {env : Env} {ρ : List (Str × Bd)} {h : Heap} (x : Frame X env ρ h) {a : Addr} {o : Obj} {fs : Array Value} (e : h.get? a = some o) (hd : o.data = .fields fs) : ¬ Fa env a := fun fa => by
  obtain ⟨o', e', q⟩ := x.fa_kind fa
  rw [e] at e'; cases e'
  rcases q with ⟨_, _, q⟩ | ⟨_, q⟩ <;> rw [hd] at q <;> cases q
theorem Frame.not_list {X : XS} {env : Env} {ρ : List (Str × Bd)} {h : Heap} (x : Frame X env ρ h) {a : Addr} {vs : Array Value} (l : h.IsList a vs) : ¬ Fa env a := fun fa => by
  obtain ⟨o, e, _, n, hd⟩ := l
  obtain ⟨o', e', q⟩ := x.fa_kind fa
  rw [e] at e'; cases e'
  rcases q with ⟨_, _, q⟩ | ⟨_, q⟩ <;> rw [hd] at q <;> cases q
theorem Frame.widen {X X' : XS} {env : Env} {ρ : List (Str × Bd)} {h : Heap} (x : Frame X env ρ h) (hX : ∀ a, X a → X' a) (hn : ∀ b o, ¬ X b → h.get? b = some o → ¬ X' b) : Frame X' env ρ h := by
  obtain ⟨m, hm, hv⟩ := x.vars
  refine ⟨x.kind, x.gl, x.bi, hX _ x.xl, ⟨m, hm, fun n b e => ?_⟩, fun n c e => ?_, x.apart⟩
  · obtain ⟨v, r, c⟩ := hv n b e
    exact ⟨v, b.mono r fun b o n e => ⟨hn b o n e, e⟩, c⟩
  · obtain ⟨q, v, hv⟩ := x.cells n c e; exact ⟨hX _ q, v, hv⟩

/-- the cells a comprehension takes from around -/
def clos (cells : List (Str × Addr)) : List (Str × NameKind) → List (Str × Addr) → List (Str × Addr)
  | [], acc => acc
  | (n, k) :: r, acc => if k == .free then clos cells r ((n, (cells.lookup n).getD 0) :: acc) else clos cells r acc
theorem closureFor_clos {env : Env} : ∀ (names : List (Str × NameKind)) (acc : List (Str × Addr)), (names.all fun x => x.2 != .free || (env.cells.lookup x.1).isSome) = true →
    forIn names acc (fun (x : Str × NameKind) (cs : List (Str × Addr)) => (if (x.2 == NameKind.free) = true then do let a ← cellOf env x.1; pure (ForInStep.yield ((x.1, a) :: cs)) else pure (ForInStep.yield cs) : Sem _)) = pure (clos env.cells names acc)
  | [], acc, _ => rfl
  | (n, k) :: r, acc, h => by
    simp only [List.all_cons, Bool.and_eq_true] at h
    rw [List.forIn_cons]
    unfold clos
    cases hk : (k == NameKind.free) with
    | false =>
      simp only [hk, Bool.false_eq_true, if_false]
      exact closureFor_clos r acc h.2
    | true =>
      simp only [hk, if_true]
      have h1 := h.1
      rw [show (k != NameKind.free) = false by simpa [bne] using hk, Bool.false_or] at h1
      obtain ⟨c, hc⟩ := Option.isSome_iff_exists.mp h1
      have : cellOf env n = pure c := by unfold cellOf; rw [hc]
      rw [this, hc]
      exact closureFor_clos r _ h.2
theorem closureFor_eq {scope : Scope} {env : Env} (h : (scope.names.all fun x => x.2 != .free || (env.cells.lookup x.1).isSome) = true) : closureFor scope env = pure (clos env.cells scope.names []) := by
  unfold closureFor
  have := closureFor_clos (env := env) scope.names [] h
  simp only [bind_pure_comp] at this ⊢
  first | exact this | (rw [this]; rfl) | (simpa using this)

theorem clos_not {cells : List (Str × Addr)} {n : Str} : ∀ (names : List (Str × NameKind)) (acc : List (Str × Addr)), (∀ x ∈ names, x.1 = n → x.2 ≠ .free) → (clos cells names acc).lookup n = acc.lookup n
  | [], _, _ => rfl
  | (m, k) :: r, acc, h => by
    unfold clos
    split
    · rename_i hk
      rw [clos_not r _ fun x hx => h x (List.mem_cons_of_mem _ hx)]
      have : n ≠ m := fun e => h _ List.mem_cons_self e.symm (by simpa using hk)
      rw [List.lookup_cons, show (n == m) = false by simpa using this]
    · exact clos_not r _ fun x hx => h x (List.mem_cons_of_mem _ hx)
theorem clos_get {cells : List (Str × Addr)} {n : Str} : ∀ (names : List (Str × NameKind)) (acc : List (Str × Addr)), (names.map (·.1)).Nodup → (n, NameKind.free) ∈ names → (clos cells names acc).lookup n = some ((cells.lookup n).getD 0)
  | (m, k) :: r, acc, nd, h => by
    simp only [List.map_cons, List.nodup_cons] at nd
    unfold clos
    rcases List.mem_cons.mp h with e | h
    · cases e
      rw [if_pos (by rfl), clos_not r _ fun x hx e => absurd (List.mem_map_of_mem (f := (·.1)) hx) (by rw [e]; exact nd.1)]
      simp
    · split
      · exact clos_get r _ nd.2 h
      · exact clos_get r _ nd.2 h
theorem clos_mem {cells : List (Str × Addr)} {n : Str} {c : Addr} : ∀ (names : List (Str × NameKind)) (acc : List (Str × Addr)), (names.all fun x => x.2 != .free || (cells.lookup x.1).isSome) = true → (n, c) ∈ clos cells names acc → (n, c) ∈ acc ∨ cells.lookup n = some c
  | [], acc, _, h => .inl h
  | (m, k) :: r, acc, ha, h => by
    simp only [List.all_cons, Bool.and_eq_true] at ha
    unfold clos at h
    split at h
    · rename_i hk
      rcases clos_mem r _ ha.2 h with h | h
      · rcases List.mem_cons.mp h with e | h
        · cases e
          have h1 := ha.1
          rw [show (k != NameKind.free) = false by simpa [bne] using hk, Bool.false_or] at h1
          obtain ⟨c, hc⟩ := Option.isSome_iff_exists.mp h1
          exact .inr (by rw [hc]; rfl)
        · exact .inl h
      · exact .inr h
    · exact clos_mem r _ ha.2 h
theorem cellsFrom_not {n : Str} : ∀ (names : List (Str × NameKind)) (k : Nat) (acc : List (Str × Addr)), (∀ x ∈ names, x.1 = n → x.2 ≠ .cell) → (cellsFrom k names acc).lookup n = acc.lookup n
  | [], _, _, _ => rfl
  | (m, kd) :: r, k, acc, h => by
    unfold cellsFrom
    split
    · rename_i hk
      rw [cellsFrom_not r _ _ fun x hx => h x (List.mem_cons_of_mem _ hx)]
      have : n ≠ m := fun e => h _ List.mem_cons_self e.symm (by simpa using hk)
      rw [List.lookup_cons, show (n == m) = false by simpa using this]
    · exact cellsFrom_not r _ _ fun x hx => h x (List.mem_cons_of_mem _ hx)
theorem cellsFrom_split : ∀ (names : List (Str × NameKind)) (k : Nat) (acc : List (Str × Addr)), cellsFrom k names acc = cellsFrom k names [] ++ acc
  | [], _, _ => rfl
  | (m, kd) :: r, k, acc => by
    unfold cellsFrom
    split
    · rw [cellsFrom_split r (k + 1) ((m, k) :: acc), cellsFrom_split r (k + 1) [(m, k)], List.append_assoc]; rfl
    · exact cellsFrom_split r k acc
theorem clos_apart {cells : List (Str × Addr)} (hp : cells.Pairwise fun x y => x.2 ≠ y.2) : ∀ (names : List (Str × NameKind)) (acc : List (Str × Addr)), (names.all fun x => x.2 != .free || (cells.lookup x.1).isSome) = true → (names.map (·.1)).Nodup →
    (acc.Pairwise fun x y => x.2 ≠ y.2) → (∀ x ∈ acc, cells.lookup x.1 = some x.2 ∧ x.1 ∉ names.map (·.1)) → (clos cells names acc).Pairwise fun x y => x.2 ≠ y.2
  | [], acc, _, _, h, _ => h
  | (m, k) :: r, acc, ha, nd, h, hm => by
    simp only [List.all_cons, Bool.and_eq_true] at ha
    simp only [List.map_cons, List.nodup_cons] at nd
    unfold clos
    split
    · rename_i hk
      have h1 := ha.1
      rw [show (k != NameKind.free) = false by simpa [bne] using hk, Bool.false_or] at h1
      obtain ⟨c, hc⟩ := Option.isSome_iff_exists.mp h1
      rw [hc]
      refine clos_apart hp r _ ha.2 nd.2 (List.pairwise_cons.mpr ⟨fun y hy e => ?_, h⟩) fun x hx => ?_
      · have := (hm y hy).1
        have e' : y.2 = c := e.symm
        exact (hm y hy).2 (by rw [name_of_addr hp (mem_of_lookup this) (e' ▸ mem_of_lookup hc)]; simp)
      · rcases List.mem_cons.mp hx with rfl | hx
        · exact ⟨hc, nd.1⟩
        · exact ⟨(hm x hx).1, fun q => (hm x hx).2 (by simp [q])⟩
    · exact clos_apart hp r _ ha.2 nd.2 h fun x hx => ⟨(hm x hx).1, fun q => (hm x hx).2 (by simp [q])⟩

theorem filter_lookup {β : Type} {p : Str → Bool} {n : Str} {b : β} : ∀ {ρ : List (Str × β)}, (ρ.filter fun x => p x.1).lookup n = some b → ρ.lookup n = some b ∧ p n = true
  | [], h => by simp at h
  | (m, c) :: r, h => by
    simp only [List.filter_cons] at h
    cases hp : p m with
    | true =>
      simp only [hp, if_true, List.lookup_cons] at h ⊢
      cases hn : n == m with
      | true =>
        simp only [hn] at h ⊢
        have e : n = m := by simpa using hn
        rw [e]
        exact ⟨h, hp⟩
      | false => simp only [hn] at h ⊢; exact filter_lookup h
    | false =>
      simp only [hp, Bool.false_eq_true, if_false] at h
      obtain ⟨h1, h2⟩ := filter_lookup h
      refine ⟨?_, h2⟩
      rw [List.lookup_cons, show (n == m) = false by
        cases q : n == m with
        | false => rfl
        | true =>
          have e : n = m := by simpa using q
          rw [e, hp] at h2
          cases h2]
      exact h1
end Mine
end

section
open PySem PySem.W PyProof.Rows
namespace Mine
set_option linter.unusedVariables false

/-- an iterable: what its items are -/
def Iter (prog : Program) (w : World) (H0 : Heap) (g : Γ) (b : Bd) (bs : List Bd) : Prop :=
  ∀ (s : Shared) (v : Value) (E : Value → Shared → Prop) (Q : Value → Shared → Prop), Cx H0 g s → b.rel g.X s.heap v →
    (∀ (I : Addr) (s₂ : Shared) (St : Nat → Heap → Prop) (P : Nat → Value → Prop) (fp : List Addr) (o : Obj) (fs : Array Value), Keeps s s₂ → s.heap.get? I = none → s₂.heap.get? I = some o → o.data = .fields fs →
      Walks prog w g.A I fp [I] bs.length P St → St 0 s₂.heap → (∀ h i, St i h → ∃ o fs, h.get? I = some o ∧ o.data = .fields fs) → (∀ a ∈ fp, a = I ∨ (¬ g.X a ∧ ∃ o, s.heap.get? a = some o)) →
      (∀ i v X' h bi, bs[i]? = some bi → P i v → Kx g.X X' s.heap h → bi.rel X' h v) → Q (.ref I) s₂) → wpAny (model prog w) g.A (pyIter v) Q E s

section
variable {prog : Program} {w : World} {H0 : Heap} {g : Γ} {α β : Type} {t : Ty α} {u : Ty β}

theorem iter_list {xs : List α} : Iter prog w H0 g ((tList t).at xs) (xs.map t.at) := by
  rintro s v E Q c ⟨a, vs, rfl, n, l, r⟩ h
  refine wpAny_pyIter_list l ?_
  obtain ⟨oa, hoa, hra⟩ := id l
  have hne : a ≠ s.heap.objs.size := Nat.ne_of_lt (Heap.lt_size hoa)
  have hn : s.heap.get? s.heap.objs.size = none := by
    cases q : s.heap.get? s.heap.objs.size with
    | none => rfl
    | some o => exact absurd (Heap.lt_size q) (Nat.lt_irrefl _)
  have W := Walks.list (prog := prog) (w := w) c.ok.hh s.heap.objs.size a hne vs.toArray
  have hlen : vs.toArray.size = (xs.map t.at).length := by simp [r.length]
  rw [hlen] at W
  refine h s.heap.objs.size _ _ _ _ _ _ (Keeps.push s _) hn (Heap.get?_push_size _ rfl) rfl W ⟨⟨_, Heap.get?_push_size _ rfl, rfl, rfl⟩, l.push _⟩ (fun h i st => ?_) ?_ ?_
  · obtain ⟨⟨o, ho, _, hd⟩, _⟩ := st
    exact ⟨o, _, ho, hd⟩
  · intro b hb
    rcases List.mem_cons.mp hb with rfl | hb
    · exact .inl rfl
    · rcases List.mem_cons.mp hb with rfl | hb
      · exact .inr ⟨n, oa, hoa⟩
      · cases hb
  · intro i v X' h' bi hbi hP k
    have hP' : vs[i]? = some v := by simpa using hP
    obtain ⟨x, hx, hr⟩ := r.get hP'
    rw [List.getElem?_map, hx] at hbi
    cases hbi
    exact t.mono hr k

theorem iter_bytes {xs : List UInt8} : Iter prog w H0 g (tBytes.at xs) (xs.map fun c => tInt.at (c.toNat : Int)) := by
  rintro s v E Q c ⟨tk, rfl⟩ h
  refine KBw.pyIter_bytes ?_
  have hn : s.heap.get? s.heap.objs.size = none := by
    cases q : s.heap.get? s.heap.objs.size with
    | none => rfl
    | some o => exact absurd (Heap.lt_size q) (Nat.lt_irrefl _)
  have W := KBw.walks (prog := prog) (w := w) c.ok.hh s.heap.objs.size xs.toArray tk
  have hlen : xs.toArray.size = (xs.map fun c => tInt.at (c.toNat : Int)).length := by simp
  rw [hlen] at W
  refine h s.heap.objs.size _ _ _ _ _ _ (Keeps.push s _) hn (Heap.get?_push_size _ rfl) rfl W ⟨_, Heap.get?_push_size _ rfl, rfl, rfl⟩ (fun h i st => ?_) ?_ ?_
  · obtain ⟨o, ho, _, hd⟩ := st
    exact ⟨o, _, ho, hd⟩
  · intro b hb
    rcases List.mem_cons.mp hb with rfl | hb
    · exact .inl rfl
    · cases hb
  · intro i v X' h' bi hbi hP k
    obtain ⟨c, u, hc, rfl⟩ := hP
    have hc' : xs[i]? = some c := by simpa using hc
    rw [List.getElem?_map, hc'] at hbi
    cases hbi
    exact ⟨u, rfl⟩

/-- a range object -/
def bRange (a b c : Int) : Bd := ⟨fun X h v => ∃ r t1 t2 t3, v = .ref r ∧ ¬ X r ∧ IsRange h r a b c t1 t2 t3, by
  rintro X X' h h' v ⟨r, t1, t2, t3, rfl, n, hr⟩ k
  exact ⟨r, t1, t2, t3, rfl, (k r _ n hr).1, (k r _ n hr).2⟩⟩
theorem iter_range {a b c : Int} (hs : Builtin.Range.small a b c = true) {n : Nat} (hn : Builtin.Range.rangeSize a b c = (n : Int)) : Iter prog w H0 g (bRange a b c) ((List.range n).map fun (i : Nat) => tInt.at (a + (i : Int) * c)) := by
  rintro s v E Q cx ⟨r, t1, t2, t3, rfl, nx, hr⟩ h
  refine wpAny_pyIter_range hr hs ?_
  have hnn : s.heap.get? s.heap.objs.size = none := by
    cases q : s.heap.get? s.heap.objs.size with
    | none => rfl
    | some o => exact absurd (Heap.lt_size q) (Nat.lt_irrefl _)
  have W := Walks.range (prog := prog) (w := w) cx.ok.hh s.heap.objs.size a c n
  have hlen : ((List.range n).map fun (i : Nat) => tInt.at (a + (i : Int) * c)).length = n := by simp
  rw [← hlen] at W
  refine h s.heap.objs.size _ _ _ _ _ _ (Keeps.push s _) hnn (Heap.get?_push_size _ rfl) rfl W ?_ (fun h i st => ⟨_, _, st, rfl⟩) ?_ ?_
  · rw [hlen, hn]
    have := @Heap.get?_push_size s.heap { cls := .type "range_iterator", data := .fields #[rawInt a, rawInt (n : Int), rawInt c] } rfl
    simpa using this
  · intro b hb
    rcases List.mem_cons.mp hb with rfl | hb
    · exact .inl rfl
    · cases hb
  · intro i v X' h' bi hbi hP k
    obtain ⟨tk, rfl⟩ := hP
    have hi : i < n := by
      have := (List.getElem?_eq_some_iff.mp hbi).1
      simpa using this
    rw [List.getElem?_map, List.getElem?_range hi] at hbi
    cases hbi
    exact ⟨tk, rfl⟩

/-- the tests of a comprehension -/
def TsL (prog : Program) (w : World) (H0 : Heap) (g : Γ) (ifs : List Expr) (b : Bool) : Prop :=
  ∀ s, Cx H0 g s → ∀ E, wpAny (model prog w) g.A (forIn ifs true fun c r => if r = true then do let ok ← isTrue c g.env (eval c g.env); pure (ForInStep.yield ok) else pure (ForInStep.yield r)) (fun c s' => Keeps s s' ∧ c = b) E s
theorem tsl_nil : TsL prog w H0 g [] true := fun s _ _ => wpAny_tests_nil ⟨Keeps.refl s, rfl⟩
theorem tsl_one {e : Expr} {c : Bool} (h : Ts prog w H0 g e c) : TsL prog w H0 g [e] c := fun s x E => wpAny_tests_one (h s x E)

theorem newCompEnv {M : Model} {A : Around} {E : Value → Shared → Prop} {s : Shared} {scope : Scope} {cl : List (Str × Addr)} {env : Env} {Q : Env → Shared → Prop}
    (h : Q (newEnv scope s.heap.objs.size env.globals (cellsFrom (s.heap.objs.size + 1) scope.names cl) env.qual none .none (some env) builtinsNs) { s with heap := pushCells (s.heap.push { cls := .type "dict", data := .dict #[] }) scope.names }) :
    wpAny M A (newFunctionEnv scope env.globals cl [] env.qual none .none (some env)) Q E s := by
  simp only [newFunctionEnv, Option.isSome_some, if_true]
  refine wpAny_bind (wpAny_alloc ?_)
  refine wpAny_bind (wpAny_layCells _ (fun name kind cells => by cases hkc : kind == NameKind.cell <;> simp [hkc]) _ _ _ _ ?_)
  rw [show ({ s with heap := s.heap.push { cls := .type "dict", data := .dict #[] } } : Shared).heap.objs.size = s.heap.objs.size + 1 from Heap.size_push ..]
  rw [List.forIn_nil]
  exact wpAny_bind (wpAny_pure (wpAny_pure h))

abbrev envC (scope : Scope) (C : Addr) (env : Env) : Env := compEnvC scope (cellsFrom (C + 1) scope.names (clos env.cells scope.names [])) C env

/-- the context of a comprehension's element -/
abbrev gC (g : Γ) (X : XS) (scope : Scope) (C : Addr) (x : Str) (b : Bd) : Γ := ⟨g.A, X, envC scope C g.env, (x, b) :: (g.ρ.filter fun y => scope.names.lookup y.1 == some .free), g.Ω, g.n⟩

structure CompOk (scope : Scope) (env : Env) (x : Str) : Prop where
  kind : scope.kind = .function
  nd : (scope.names.map (·.1)).Nodup
  fr : (scope.names.all fun y => y.2 != .free || (env.cells.lookup y.1).isSome) = true
  fk : (scope.names.all fun y => y.2 != .free || (env.kindOf y.1 == some .cell || env.kindOf y.1 == some .free)) = true
  tg : scope.names.lookup x = some .local ∨ scope.names.lookup x = some .cell

theorem relabel_lookup {env : Env} {n : Str} : ∀ (names : List (Str × NameKind)), (names.map fun (n, k) => if (k == .free && env.scope.kind == .function && env.kindOf n == some .cell) then (n, NameKind.cell) else (n, k)).lookup n =
    (names.lookup n).map fun k => if (k == .free && env.scope.kind == .function && env.kindOf n == some .cell) then .cell else k
  | [] => rfl
  | (m, k) :: r => by
    have ih := relabel_lookup (env := env) (n := n) r
    simp only [List.map_cons]
    cases q : n == m with
    | true =>
      have e : n = m := by simpa using q
      subst e
      by_cases hc : (k == .free && env.scope.kind == .function && env.kindOf n == some .cell) = true
      · rw [if_pos hc]
        simp only [List.lookup_cons, beq_self_eq_true, Option.map_some]
        rw [if_pos hc]
      · rw [if_neg hc]
        simp only [List.lookup_cons, beq_self_eq_true, Option.map_some]
        rw [if_neg hc]
    | false => split <;> simp only [List.lookup_cons, q] <;> exact ih

theorem cellsFrom_name_mem {n : Str} {c : Addr} : ∀ (names : List (Str × NameKind)) (k : Nat), (n, c) ∈ cellsFrom k names [] → (n, NameKind.cell) ∈ names
  | [], _, h => by cases h
  | (m, kd) :: r, k, h => by
    unfold cellsFrom at h
    split at h
    · rename_i hk
      rw [cellsFrom_split] at h
      rcases List.mem_append.mp h with h | h
      · exact List.mem_cons_of_mem _ (cellsFrom_name_mem r _ h)
      · have e : (n, c) = (m, k) := by simpa using h
        cases e
        have : kd = .cell := by simpa using hk
        rw [this]; exact List.mem_cons_self
    · exact List.mem_cons_of_mem _ (cellsFrom_name_mem r _ h)
theorem lookup_of_mem_nd {β : Type} {n : Str} {b : β} : ∀ {l : List (Str × β)}, (l.map (·.1)).Nodup → (n, b) ∈ l → l.lookup n = some b
  | (m, c) :: r, nd, h => by
    simp only [List.map_cons, List.nodup_cons] at nd
    rcases List.mem_cons.mp h with e | h
    · cases e; simp
    · rw [List.lookup_cons]
      have : n ≠ m := fun e => nd.1 (by rw [← e]; exact List.mem_map_of_mem (f := (·.1)) h)
      rw [show (n == m) = false by simpa using this]
      exact lookup_of_mem_nd nd.2 h
end
end Mine
end

section
open PySem PySem.W PyProof.Rows
namespace Mine
set_option linter.unusedVariables false
section
variable {prog : Program} {w : World} {H0 : Heap} {g : Γ} {α β : Type} {u : Ty β}

theorem get_none_of_size {h : Heap} {a : Addr} (e : h.objs.size ≤ a) : h.get? a = none := by
  cases q : h.get? a with
  | none => rfl
  | some o => exact absurd (Heap.lt_size q) (Nat.not_lt.mpr e)
theorem keep_size {s s' : Shared} (k : Keeps s s') {a : Addr} {o : Obj} (e : s.heap.get? a = some o) : s'.heap.get? a = some o := k.keep _ _ e
theorem Keep.none {h h' : Heap} (k : Keep h h') {a : Addr} (e : h'.get? a = none) : h.get? a = none := by
  cases q : h.get? a with
  | none => rfl
  | some o => rw [k a o q] at e; cases e

theorem all2_snoc_filter {R : Value → β → Prop} {xs : List α} {p : α → Bool} {f : α → β} {i : Nat} {x : α} {ys : List Value} (hx : xs[i]? = some x) (h : All2 R ys (((xs.take i).filter p).map f)) :
    (p x = false → All2 R ys (((xs.take (i + 1)).filter p).map f)) ∧ (p x = true → ∀ y, R y (f x) → All2 R (ys ++ [y]) (((xs.take (i + 1)).filter p).map f)) := by
  rw [take_succ_filter p xs i x hx]
  refine ⟨fun hp => ?_, fun hp y hy => ?_⟩
  · simpa [hp] using h
  · simp only [hp, if_true, List.map_append]
    exact h.append (.cons hy .nil)

/-- a comprehension's loop -/
theorem comp_core {elt iter : Expr} {x : Str} {px pos : Pos} {ifs : List Expr} {scope : Scope} {xs : List α} {bnd : α → Bd} {p : α → Bool} {f : α → β}
    (ok : CompOk scope g.env x) (hsz : xs.length ≤ 16777216)
    (hq : ∀ z ∈ xs, ∀ (X' : XS) (C : Addr), (∀ a, g.X a → X' a) → TsL prog w H0 (gC g X' scope C x (bnd z)) ifs (p z) ∧ (p z = true → Ev prog w H0 (gC g X' scope C x (bnd z)) X' elt (u.at (f z))))
    {s₁ s₂ : Shared} (c₁ : Cx H0 g s₁) (k12 : Keeps s₁ s₂) {I : Addr} {St : Nat → Heap → Prop} {P : Nat → Value → Prop} {fp : List Addr} (hI : s₁.heap.get? I = none)
    (W : Walks prog w g.A I fp [I] (xs.map bnd).length P St) (hst : St 0 s₂.heap) (hIf : ∀ h i, St i h → ∃ o fs, h.get? I = some o ∧ o.data = .fields fs) (hfp : ∀ a ∈ fp, a = I ∨ (¬ g.X a ∧ ∃ o, s₁.heap.get? a = some o))
    (hit : ∀ i v X' h bi, (xs.map bnd)[i]? = some bi → P i v → Kx g.X X' s₁.heap h → bi.rel X' h v)
    {E : Value → Shared → Prop} {RR : Value → Addr → Result → Shared → Prop}
    (hR : ∀ D C s' m', Keeps s₁ s' → s₁.heap.get? D = none → s₁.heap.get? C = none → D ≠ C → s'.heap.Ns C m' → (∃ X', (∀ a, g.X a → X' a) ∧ X' C ∧ (tList u).rel X' s'.heap (.ref D) ((xs.filter p).map f)) → RR (.ref D) C (.ok .next) s') :
    wpAny (model prog w) g.A (newList []) (fun acc s₃ => wpAny (model prog w) g.A (newFunctionEnv scope g.env.globals (clos g.env.cells scope.names []) [] g.env.qual none .none (some g.env)) (fun cenv s₄ =>
      codeAny (model prog w) g.A (.compStart (.ListComp elt [⟨.Name x px, iter, ifs, 0⟩] scope pos) 0 (.ref I) acc { cenv with scope := relabel scope g.env }) (RR acc cenv.locals) s₄) E s₃) E s₂ := by
  have fresh2 : ∀ a, s₂.heap.objs.size ≤ a → s₁.heap.get? a = none := fun a h => Keep.none k12.keep (get_none_of_size h)
  refine wpAny_newObj_type (newCompEnv ?_)
  generalize hD : s₂.heap.objs.size = D
  have hs3 : (s₂.heap.push { cls := .type "list", dict := none, data := .seq ([] : List Value).toArray }).objs.size = D + 1 := by rw [Heap.size_push, hD]
  simp only [hs3]
  generalize hC : D + 1 = C
  -- the cells
  have okc := cellsFrom_ok scope.names ((s₂.heap.push { cls := .type "list", dict := none, data := .seq ([] : List Value).toArray }).push { cls := .type "dict", data := .dict #[] }) (C + 1) []
    ⟨fun _ _ hm => (nomatch hm), List.Pairwise.nil⟩ (by rw [Heap.size_push, hs3, hC]; exact Nat.le_refl _)
  rw [Heap.size_push, hs3, hC] at okc
  generalize hH4 : pushCells ((s₂.heap.push { cls := .type "list", dict := none, data := .seq ([] : List Value).toArray }).push { cls := .type "dict", data := .dict #[] }) scope.names = H4 at okc
  have keep24 : Keep s₂.heap H4 := fun b o e => hH4 ▸ pushCells_keeps _ _ b o (Heap.get?_push_of_some _ (Heap.get?_push_of_some _ e))
  have k14 : Keeps s₁ { s₂ with heap := H4 } := k12.trans ⟨H4, s₂.toks, rfl, keep24⟩
  have nsC : H4.Ns C fun _ => none := by
    have := (Heap.Ns.new (s₂.heap.push { cls := .type "list", dict := none, data := .seq ([] : List Value).toArray }) (.type "dict")).keeps (pushCells_keeps scope.names _)
    rw [hs3, hC, hH4] at this; exact this
  have lD : H4.IsList D #[] := by
    have := @isList_push_new s₂.heap #[]
    rw [hD] at this
    obtain ⟨o, ho, r⟩ := this
    exact ⟨o, hH4 ▸ pushCells_keeps _ _ _ _ (Heap.get?_push_of_some _ ho), r⟩
  have fD : s₁.heap.get? D = none := fresh2 D (by omega)
  have fC : s₁.heap.get? C = none := fresh2 C (by omega)
  have hDC : D ≠ C := by omega
  let own := cellsFrom (C + 1) scope.names []
  have fO : ∀ n c, (n, c) ∈ own → s₁.heap.get? c = none := fun n c hm => fresh2 c (by have := (okc.empty n c hm).2; omega)
  have ID' : I < D := by
    obtain ⟨o, fs, e, _⟩ := hIf _ _ hst
    exact hD ▸ Heap.lt_size e
  have ID : I ≠ D := Nat.ne_of_lt ID'
  have IC : I ≠ C := hC ▸ Nat.ne_of_lt (Nat.lt_succ_of_lt ID')
  -- what is the loop's own
  let X' : XS := fun a => g.X a ∨ a = I ∨ a = C ∨ ∃ n, (n, a) ∈ own
  let XD : XS := fun a => X' a ∨ a = D
  have newX : ∀ a, XD a → g.X a ∨ s₁.heap.get? a = none := by
    rintro a (((q | q | q | ⟨n, q⟩)) | q)
    · exact .inl q
    · exact .inr (q ▸ hI)
    · exact .inr (q ▸ fC)
    · exact .inr (fO n a q)
    · exact .inr (q ▸ fD)
  have kxD : ∀ {s' : Shared}, Keeps s₁ s' → Kx g.X XD s₁.heap s'.heap := by
    intro s' k b o n e
    refine ⟨fun q => ?_, k.keep b o e⟩
    rcases newX b q with q | q
    · exact n q
    · rw [q] at e; cases e
  have gXD : ∀ a, g.X a → XD a := fun a q => .inl (.inl q)
  have cl' : cellsFrom (C + 1) scope.names (clos g.env.cells scope.names []) = own ++ clos g.env.cells scope.names [] := cellsFrom_split ..
  have ce : ∀ n c, (envC scope C g.env).cells.lookup n = some c → (n, c) ∈ own ∨ g.env.cells.lookup n = some c := by
    intro n c e
    have e' : (cellsFrom (C + 1) scope.names (clos g.env.cells scope.names [])).lookup n = some c := e
    rw [cl'] at e'
    rcases List.mem_append.mp (mem_of_lookup e') with h | h
    · exact .inl h
    · rcases clos_mem _ _ ok.fr h with h | h
      · cases h
      · exact .inr h
  have freeMem : ∀ {n : Str}, scope.names.lookup n = some .free → (n, NameKind.free) ∈ scope.names := fun h => mem_of_lookup h
  have freeHas : ∀ {n : Str}, scope.names.lookup n = some .free → ∃ c, g.env.cells.lookup n = some c := by
    intro n h
    have := List.all_eq_true.mp ok.fr _ (freeMem h)
    simp only [bne_self_eq_false, Bool.false_or] at this
    exact Option.isSome_iff_exists.mp this
  have freeKind : ∀ {n : Str}, scope.names.lookup n = some .free → g.env.kindOf n ≠ some .local := by
    intro n h e
    have := List.all_eq_true.mp ok.fk _ (freeMem h)
    simp only [bne_self_eq_false, Bool.false_or, e] at this
    cases this
  have freeCell : ∀ {n : Str}, scope.names.lookup n = some .free → (envC scope C g.env).cells.lookup n = g.env.cells.lookup n := by
    intro n h
    show (cellsFrom (C + 1) scope.names (clos g.env.cells scope.names [])).lookup n = _
    rw [cellsFrom_not _ _ _ fun x hx e => by
      have : scope.names.lookup x.1 = some x.2 := lookup_of_mem_nd ok.nd hx
      rw [e, h] at this
      rw [← Option.some.inj this]; decide, clos_get _ _ ok.nd (freeMem h)]
    obtain ⟨c, hc⟩ := freeHas h
    rw [hc]; rfl
  have kindFree : ∀ {n : Str}, scope.names.lookup n = some .free → (envC scope C g.env).kindOf n = some .cell ∨ (envC scope C g.env).kindOf n = some .free := by
    intro n h
    have := relabel_lookup (env := g.env) (n := n) scope.names
    rw [h] at this
    show (relabel scope g.env).names.lookup n = _ ∨ (relabel scope g.env).names.lookup n = _
    rw [show (relabel scope g.env).names.lookup n = _ from this]
    simp only [Option.map_some]
    split
    · exact .inl rfl
    · exact .inr rfl
  have kindX : (envC scope C g.env).kindOf x = some .local ∨ ((envC scope C g.env).kindOf x = some .cell ∧ ((envC scope C g.env).cells.lookup x).isSome = true) := by
    have := relabel_lookup (env := g.env) (n := x) scope.names
    have e : (envC scope C g.env).kindOf x = (relabel scope g.env).names.lookup x := rfl
    rcases ok.tg with h | h
    · rw [h] at this
      exact .inl (e.trans this)
    · rw [h] at this
      refine .inr ⟨e.trans this, ?_⟩
      show ((cellsFrom (C + 1) scope.names (clos g.env.cells scope.names [])).lookup x).isSome = true
      exact cellsFrom_some _ _ _ (.inl h)
  let ρf := g.ρ.filter fun y => scope.names.lookup y.1 == some .free
  have ρfOk : ∀ {n : Str} {b : Bd}, ρf.lookup n = some b → g.ρ.lookup n = some b ∧ scope.names.lookup n = some .free := fun h => by
    obtain ⟨h1, h2⟩ := filter_lookup (p := fun y => scope.names.lookup y == some .free) h
    exact ⟨h1, by simpa using h2⟩
  obtain ⟨m1, hm1, hv1⟩ := c₁.fr.vars
  -- the frame at the loop's start
  have fr4 : Frame XD (envC scope C g.env) ρf H4 := by
    refine ⟨ok.kind, c₁.fr.gl, c₁.fr.bi, .inl (.inr (.inr (.inl rfl))), ⟨_, nsC, fun n b e => ?_⟩, fun n c e => ?_, ?_⟩
    · obtain ⟨h1, h2⟩ := ρfOk e
      obtain ⟨v, r, q⟩ := hv1 n b h1
      obtain ⟨c, hc⟩ := freeHas h2
      refine ⟨v, b.mono r (kxD k14), .inr ⟨kindFree h2, c, (freeCell h2).trans hc, ?_⟩⟩
      rcases q with ⟨q1, q2⟩ | ⟨q1, c', q2, q3⟩
      · exact absurd q1 (freeKind h2)
      · rw [hc] at q2; cases q2
        exact q3.keeps k14.keep
    · rcases ce n c e with h | h
      · exact ⟨.inl (.inr (.inr (.inr ⟨n, h⟩))), _, (okc.empty n c h).1⟩
      · obtain ⟨q, v, hv⟩ := c₁.fr.cells n c h
        exact ⟨gXD c q, v, hv.keeps k14.keep⟩
    · show (cellsFrom (C + 1) scope.names (clos g.env.cells scope.names [])).Pairwise _
      rw [cl']
      refine List.pairwise_append.mpr ⟨okc.apart, clos_apart c₁.fr.apart _ _ ok.fr ok.nd List.Pairwise.nil (fun _ h => nomatch h), fun y hy z hz e => ?_⟩
      rcases clos_mem (n := z.1) (c := z.2) _ _ ok.fr hz with h | h
      · cases h
      · obtain ⟨_, v, o, ho, _⟩ := c₁.fr.cells _ _ h
        have := fO y.1 y.2 hy
        rw [e, ho] at this; cases this
  have fa_x : ∀ {ρ : List (Str × Bd)} {h : Heap} {a : Addr}, Frame XD (envC scope C g.env) ρ h → Fa (envC scope C g.env) a → XD a := by
    rintro ρ h a fr (rfl | ⟨n, e⟩)
    · exact fr.xl
    · exact (fr.cells n a e).1
  have fpOk : ∀ a ∈ fp, a = I ∨ ¬ XD a ∧ ∃ o, s₁.heap.get? a = some o := by
    intro a ha
    rcases hfp a ha with q | ⟨q, o, e⟩
    · exact .inl q
    · refine .inr ⟨fun z => ?_, o, e⟩
      rcases newX a z with z | z
      · exact q z
      · rw [z] at e; cases e
  have hlen : (xs.map bnd).length = xs.length := by simp
  have live4 : Live XD H4 := by
    rintro a ((q | q | q | ⟨n, q⟩) | q)
    · obtain ⟨o, e⟩ := c₁.live a q; exact ⟨o, k14.keep a o e⟩
    · subst q; obtain ⟨o, fs, e, _⟩ := hIf _ _ hst; exact ⟨o, keep24 _ _ e⟩
    · subst q; obtain ⟨o, _, _, e, _⟩ := nsC; exact ⟨o, e⟩
    · obtain ⟨⟨o, e, _⟩, _⟩ := okc.empty n a q; exact ⟨o, e⟩
    · subst q; obtain ⟨o, e, _⟩ := lD; exact ⟨o, e⟩
  have targetNew : ∀ a, (a = (envC scope C g.env).locals ∨ (envC scope C g.env).cells.lookup x = some a) → s₁.heap.get? a = none := by
    rintro a (rfl | e)
    · exact fC
    · rcases kindX with hl | ⟨hc, _⟩
      · exfalso
        have e' : (cellsFrom (C + 1) scope.names (clos g.env.cells scope.names [])).lookup x = some a := e
        rcases ok.tg with h | h
        · have nf : ∀ y ∈ scope.names, y.1 = x → y.2 = .local := fun y hy e => by
            have := lookup_of_mem_nd ok.nd hy
            rw [e, h] at this; exact (Option.some.inj this).symm
          rw [cellsFrom_not _ _ _ fun y hy e => by rw [nf y hy e]; decide, clos_not _ _ fun y hy e => by rw [nf y hy e]; decide] at e'
          cases e'
        · have := relabel_lookup (env := g.env) (n := x) scope.names
          rw [h] at this
          have e2 : (envC scope C g.env).kindOf x = some .cell := this
          rw [hl] at e2; cases e2
      · have e' : (cellsFrom (C + 1) scope.names (clos g.env.cells scope.names [])).lookup x = some a := e
        rw [cl', List.lookup_append] at e'
        rcases ok.tg with h | h
        · have := relabel_lookup (env := g.env) (n := x) scope.names
          rw [h] at this
          have e2 : (envC scope C g.env).kindOf x = some .local := this
          rw [hc] at e2; cases e2
        · obtain ⟨c, hc⟩ := Option.isSome_iff_exists.mp (cellsFrom_some (x := x) scope.names (C + 1) [] (.inl h))
          rw [show own.lookup x = some c from hc] at e'
          cases e'
          exact fO x a (mem_of_lookup hc)
  have mkSx : ∀ {ρ : List (Str × Bd)} {s' : Shared}, Keeps s₁ s' → Frame XD (envC scope C g.env) ρ s'.heap → Live XD s'.heap → Cx H0 ⟨g.A, XD, envC scope C g.env, ρ, g.Ω, g.n⟩ s' := fun k fr lv =>
    ⟨fr, c₁.wd.kx (kxD k), lv, g.Ω.mono c₁.om k.keep, c₁.ok⟩
  have faNew : ∀ {ρ : List (Str × Bd)} {s' : Shared}, Frame XD (envC scope C g.env) ρ s'.heap → Keeps s₁ s' → s₁.heap.get? (envC scope C g.env).locals = none := fun _ _ => fC
  -- the loop
  have loop : ∀ s', Keeps s₁ s' → Frame XD (envC scope C g.env) ρf s'.heap → Live XD s'.heap → St 0 s'.heap → s'.heap.IsList D #[] →
      codeAny (model prog w) g.A (.compLoop (.ListComp elt [⟨.Name x px, iter, ifs, 0⟩] scope pos) 0 (.ref I) (.ref D) (envC scope C g.env)) (RR (.ref D) C) s' := by
    intro sa ka fra lva sta la
    refine codeAny_compLoop_tests (fun k s' => ∃ i ys, i ≤ xs.length ∧ k = xs.length + 1 - i ∧ Keeps s₁ s' ∧ Frame XD (envC scope C g.env) ρf s'.heap ∧ Live XD s'.heap ∧ St i s'.heap ∧ s'.heap.IsList D ys.toArray ∧
      All2 (fun v z => u.rel XD s'.heap v z) ys (((xs.take i).filter p).map f)) ?_ (xs.length + 1) ⟨0, [], Nat.zero_le _, rfl, ka, fra, lva, sta, la, by simpa using All2.nil⟩
    rintro k s' ⟨i, ys, hi, rfl, kk, fr, lv, st, lst, hys⟩
    obtain ⟨oI, fsI, eI, dI⟩ := hIf _ _ st
    have fI := fr.not_fields eI dI
    have fD' := fr.not_list lst
    by_cases hlt : i < xs.length
    · refine W.item i _ _ _ (by rw [hlen]; exact hlt) st fun v h1 tk1 hP st1 hk1 => ?_
      have hk1' : ∀ b o, b ≠ I → s'.heap.get? b = some o → h1.get? b = some o := fun b o nb e => hk1 b o (by simpa using nb) e
      have k1 : Keeps s₁ { s' with heap := h1, toks := tk1 } := by
        obtain ⟨h0, t0, rfl, kq⟩ := kk
        exact ⟨h1, tk1, rfl, fun b o e => hk1' b o (fun q => by rw [q, hI] at e; cases e) (kq b o e)⟩
      have fr1 : Frame XD (envC scope C g.env) ρf h1 := fr.off (Z := fun a => a = I) (fun b o nb e => hk1' b o nb e) (fun a q => .inl (.inr (.inl q))) (fun a q => q ▸ fI)
      have lv1 : Live XD h1 := fun a q => by
        by_cases z : a = I
        · subst z; obtain ⟨o, fs, e, _⟩ := hIf _ _ st1; exact ⟨o, e⟩
        · obtain ⟨o, e⟩ := lv a q; exact ⟨o, hk1' a o z e⟩
      have kx1 : Kx XD XD s'.heap h1 := fun b o nb e => ⟨nb, hk1' b o (fun q => nb (.inl (.inr (.inl q)))) e⟩
      have l1 : h1.IsList D ys.toArray := let ⟨o, ho, r⟩ := lst; ⟨o, hk1' D o (Ne.symm ID) ho, r⟩
      obtain ⟨z, hz⟩ : ∃ z, xs[i]? = some z := ⟨xs[i], by simp [hlt]⟩
      have hzm : z ∈ xs := List.mem_of_getElem? hz
      have hb : (bnd z).rel XD h1 v := hit i v XD h1 (bnd z) (by rw [List.getElem?_map, hz]; rfl) hP (kxD k1)
      refine wpAny_assign_Name (storeC (b := bnd z) (mkSx k1 fr1 lv1) hb (fun a h' fn sb => ?_) kindX fun s2 a cx2 fn ko => ?_)
      · refine g.Ω.mono c₁.om fun b o e => (sb.2 b fun q => ?_).trans (k1.keep b o e)
        rw [q, targetNew a fn] at e; cases e
      have fa2 : Fa (envC scope C g.env) a := fn.imp id fun e => ⟨x, e⟩
      have xa2 : XD a := fa_x fr1 fa2
      have k2 : Keeps s₁ s2 := by
        obtain ⟨h0, t0, q0, kq⟩ := k1
        obtain ⟨h2, t2, rfl, kq2⟩ := ko
        refine ⟨h2, t2, by rw [q0], fun b o e => kq2 b o (fun q => ?_) (by rw [q0]; exact kq b o e)⟩
        have q' : b = a := q
        rw [q', targetNew a fn] at e; cases e
      have l2 : s2.heap.IsList D ys.toArray := let ⟨o, ho, r⟩ := l1; ⟨o, ko.get (fun q => fr1.not_list l1 ((show D = a from q) ▸ fa2)) ho, r⟩
      have st2 : St (i + 1) s2.heap := W.frame _ _ _ st1 fun b hb o e => ko.get (fun q => by
        have q' : b = a := q
        rcases fpOk b hb with z | ⟨z, _⟩
        · obtain ⟨o', fs', e', d'⟩ := hIf _ _ st1
          exact fr1.not_fields e' d' (z ▸ q' ▸ fa2)
        · exact z (q' ▸ xa2)) e
      have kx2 : Kx XD XD s'.heap s2.heap := fun b o nb e => ⟨nb, ko.get (fun q => nb ((show b = a from q) ▸ xa2)) (kx1 b o nb e).2⟩
      obtain ⟨hts, hev⟩ := hq z hzm XD C gXD
      refine wpAny_mono (hts s2 cx2 _) (fun okk s3 q3 => ?_) fun _ _ e => e
      obtain ⟨k3, rfl⟩ := q3
      have cx3 := cx2.keep k3
      have sn := all2_snoc_filter (p := p) (f := f) hz (hys.imp fun v z q => u.mono (u.mono q kx2) (Kx.of_keep k3.keep))
      have subρ : ∀ n b, ρf.lookup n = some b → ((x, bnd z) :: ρf).lookup n = some b := fun n b e => by
        rw [List.lookup_cons]
        cases hn : n == x with
        | false => exact e
        | true =>
          have e' : n = x := by simpa using hn
          have := (ρfOk e).2
          rw [e'] at this
          rcases ok.tg with h | h <;> rw [h] at this <;> cases this
      cases hp : p z with
      | false =>
        simp only [Bool.false_eq_true, if_false]
        exact ⟨xs.length + 1 - (i + 1), by omega, i + 1, ys, hlt, rfl, k2.trans k3, cx3.fr.sub subρ, cx3.live, W.frame _ _ _ st2 fun b _ o e => k3.keep b o e, (let ⟨o, ho, r⟩ := l2; ⟨o, k3.keep _ _ ho, r⟩), sn.1 hp⟩
      | true =>
        simp only [if_true]
        refine wpAny_mono (hev hp s3 cx3 _) (fun y s4 q4 => ?_) fun _ _ e => e
        obtain ⟨k4, hy⟩ := q4
        have cx4 := cx3.keep k4
        have l4 : s4.heap.IsList D ys.toArray := let ⟨o, ho, r⟩ := l2; ⟨o, k4.keep _ _ (k3.keep _ _ ho), r⟩
        have hysl : ys.length ≤ 16777216 := by
          have e1 := hys.length
          have e2 : ((xs.take i).filter p).length ≤ (xs.take i).length := List.length_filter_le _ _
          rw [List.length_map] at e1
          rw [List.length_take] at e2
          omega
        refine wpAny_list_append (hsz := by rw [sizeLine_eq]; simpa using hysl) l4 fun h5 l5 sb5 => ?_
        have kx5 : Kx XD XD s4.heap h5 := fun b o nb e => ⟨nb, (sb5.2 b fun q => nb (.inr q)).trans e⟩
        have st5 : St (i + 1) h5 := W.frame _ _ _ st2 fun b hb o e => (sb5.2 b fun q => by
          rcases fpOk b hb with z | ⟨z, _⟩
          · exact ID (z ▸ q)
          · exact z (.inr q)).trans (k4.keep _ _ (k3.keep _ _ e))
        refine ⟨xs.length + 1 - (i + 1), by omega, i + 1, ys ++ [y], hlt, rfl, ?_, (cx4.fr.off (Z := fun a => a = D) (fun b o nb e => (sb5.2 b nb).trans e) (fun a q => .inr q) (fun a q => q ▸ cx4.fr.not_list l4)).sub subρ, ?_, st5, by simpa using l5, ?_⟩
        · have k14' := (k2.trans k3).trans k4
          obtain ⟨h0, t0, rfl, kq⟩ := k14'
          exact ⟨h5, _, rfl, fun b o e => (sb5.2 b fun q => by rw [q, fD] at e; cases e).trans (kq b o e)⟩
        · intro a q
          by_cases z : a = D
          · subst z; obtain ⟨o, e, _⟩ := l5; exact ⟨o, e⟩
          · obtain ⟨o, e⟩ := cx4.live a q; exact ⟨o, (sb5.2 a z).trans e⟩
        · exact (all2_snoc_filter (p := p) (f := f) hz (hys.imp fun v z q => u.mono (u.mono (u.mono (u.mono q kx2) (Kx.of_keep k3.keep)) (Kx.of_keep k4.keep)) kx5)).2 hp y (u.mono hy kx5)
    · have hin : i = xs.length := by omega
      subst hin
      refine W.done _ _ _ (hlen ▸ st) fun h1 tk1 hk1 => ?_
      have hk1' : ∀ b o, b ≠ I → s'.heap.get? b = some o → h1.get? b = some o := fun b o nb e => hk1 b o (by simpa using nb) e
      have k1 : Keeps s₁ { s' with heap := h1, toks := tk1 } := by
        obtain ⟨h0, t0, rfl, kq⟩ := kk
        exact ⟨h1, tk1, rfl, fun b o e => hk1' b o (fun q => by rw [q, hI] at e; cases e) (kq b o e)⟩
      have fr1 : Frame XD (envC scope C g.env) ρf h1 := fr.off (Z := fun a => a = I) (fun b o nb e => hk1' b o nb e) (fun a q => .inl (.inr (.inl q))) (fun a q => q ▸ fI)
      have kx1 : Kx XD XD s'.heap h1 := fun b o nb e => ⟨nb, hk1' b o (fun q => nb (.inl (.inr (.inl q)))) e⟩
      have l1 : h1.IsList D ys.toArray := let ⟨o, ho, r⟩ := lst; ⟨o, hk1' D o (Ne.symm ID) ho, r⟩
      obtain ⟨m', hm', _⟩ := fr1.vars
      refine hR D C _ m' k1 fD fC hDC hm' ⟨X', fun a q => .inl q, .inr (.inr (.inl rfl)), D, ys, rfl, ?_, l1, ?_⟩
      · rintro (q | q | q | ⟨n, q⟩)
        · obtain ⟨o, e⟩ := c₁.live D q; rw [fD] at e; cases e
        · exact ID q.symm
        · exact hDC q
        · have := (okc.empty n D q).2; omega
      · rw [List.take_length] at hys
        exact hys.imp fun v z q => u.mono (u.mono q kx1) fun b o nb e => ⟨fun q => nb (.inl q), e⟩
  exact codeAny_compStart_list (loop _ k14 fr4 live4 (W.frame _ _ _ hst fun b _ o e => keep24 b o e) lD) (W.self 0 _ _ _ (W.frame _ _ _ hst fun b _ o e => keep24 b o e) (loop _ k14 fr4 live4 (W.frame _ _ _ hst fun b _ o e => keep24 b o e) lD))

/-- a comprehension -/
theorem ev_comp {elt iter : Expr} {x : Str} {px pos : Pos} {ifs : List Expr} {scope : Scope} {xs : List α} {bnd : α → Bd} {p : α → Bool} {f : α → β} {b : Bd}
    (hit : Ev prog w H0 g g.X iter b) (hI : Iter prog w H0 g b (xs.map bnd)) (ok : CompOk scope g.env x) (hsz : xs.length ≤ 16777216)
    (hq : ∀ z ∈ xs, ∀ (X' : XS) (C : Addr), (∀ a, g.X a → X' a) → TsL prog w H0 (gC g X' scope C x (bnd z)) ifs (p z) ∧ (p z = true → Ev prog w H0 (gC g X' scope C x (bnd z)) X' elt (u.at (f z))))
    (hs : ∀ x, foldedSetIterable iter g.env x = pure x) :
    Ev prog w H0 g g.X (.ListComp elt [⟨.Name x px, iter, ifs, 0⟩] scope pos) ((tList u).at ((xs.filter p).map f)) := by
  intro s c E
  rw [eval_ListComp]
  refine wpAny_comprehension_free (use := none) rfl hs (closureFor_eq ok.fr) ok.kind (fun y hy e => e ▸ lookup_of_mem_nd ok.nd hy) (hit.use c fun v s1 k1 c1 r1 => hI s1 v _ _ c1 r1 fun I s2 St P fp o fs k2 hI0 eI dI W st hIf hfp hitem => ?_)
  refine comp_core (RR := fun acc C => compPost (model prog w) g.A E none _ acc C) ok hsz hq c1 k2 hI0 W st hIf hfp hitem fun D C s' m' ks fD fC hDC hm hr => ?_
  obtain ⟨X', hX, xC, hr⟩ := hr
  refine ⟨m', hm, fun h' sb => ?_⟩
  refine ⟨k1.trans ?_, (tList u).mono hr fun b o nb e => ⟨fun q => nb (hX b q), (sb.2 b fun q => nb (q ▸ xC)).trans e⟩⟩
  obtain ⟨h0, t0, rfl, kq⟩ := ks
  exact ⟨h', t0, rfl, fun b o e => (sb.2 b fun q => by rw [q, fC] at e; cases e).trans (kq b o e)⟩

/-- a local name set to a comprehension, the stores exchanged -/
theorem st_compG {Z : XS} {s₀ s : Shared} {elt iter : Expr} {x y : Str} {px py pos spos : Pos} {ifs : List Expr} {scope : Scope} {xs : List α} {bnd : α → Bd} {p : α → Bool} {f : α → β} {b : Bd} {E : Value → Shared → Prop} {Q : Flow → Shared → Prop} {rest : List Stmt}
    (sx : Sx H0 Z s₀ g s)
    (hit : Ev prog w H0 g g.X iter b) (hI : Iter prog w H0 g b (xs.map bnd)) (ok : CompOk scope g.env x) (hsz : xs.length ≤ 16777216)
    (hq : ∀ z ∈ xs, ∀ (X' : XS) (C : Addr), (∀ a, g.X a → X' a) → TsL prog w H0 (gC g X' scope C x (bnd z)) ifs (p z) ∧ (p z = true → Ev prog w H0 (gC g X' scope C x (bnd z)) X' elt (u.at (f z))))
    (hs : ∀ x, foldedSetIterable iter g.env x = pure x)
    (hsw : swapsWith (.ListComp elt [⟨.Name x px, iter, ifs, 0⟩] scope pos) (some (.Name y py)) spos.line g.env = pure true)
    (hΩ : g.Ω.StOff (Fa g.env)) (hk : g.env.kindOf y = some .local ∨ (g.env.kindOf y = some .cell ∧ (g.env.cells.lookup y).isSome = true))
    (k : ∀ s', Sx H0 Z s₀ { g with ρ := (y, (tList u).at ((xs.filter p).map f)) :: g.ρ } s' → wpAny (model prog w) g.A (execs rest g.env) Q E s') :
    wpAny (model prog w) g.A (execs (.Assign [.Name y py] (.ListComp elt [⟨.Name x px, iter, ifs, 0⟩] scope pos) spos :: rest) g.env) Q E s := by
  refine wpAny_execs_cons ?_
  rw [exec_Assign_Name_used _ _ _ _ hsw]
  refine wpAny_bind (wpAny_standAt (wpAny_bind ?_))
  show wpAny _ g.A (do let _ ← comprehension (.ListComp elt [⟨.Name x px, iter, ifs, 0⟩] scope pos) scope g.env _ (newList []) false (eval iter g.env) (some (assign (.Name y py) g.env))) _ _ s
  refine wpAny_bind (wpAny_mono (wpAny_comprehension_free (use := some (assign (.Name y py) g.env)) (Q := fun _ s' => wpAny (model prog w) g.A (execs rest g.env) Q E s') rfl hs (closureFor_eq ok.fr) ok.kind (fun y hy e => e ▸ lookup_of_mem_nd ok.nd hy)
    (hit.use sx.cx fun v s1 k1 c1 r1 => hI s1 v _ _ c1 r1 fun I s2 St P fp o fs k2 hI0 eI dI W st hIf hfp hitem => ?_)) (fun _ s' hq => wpAny_pure (wpAny_pure hq)) fun _ _ e => e)
  refine comp_core (RR := fun acc C => compPost (model prog w) g.A E (some (assign (.Name y py) g.env)) (fun _ s' => wpAny (model prog w) g.A (execs rest g.env) Q E s') acc C) ok hsz hq c1 k2 hI0 W st hIf hfp hitem fun D C s' m' ks fD fC hDC hm hr => ?_
  obtain ⟨X', hX, xC, hr⟩ := hr
  show wpAny _ g.A (assign (.Name y py) g.env (.ref D)) _ _ _
  have sx1 := sx.keep k1
  have sx2 := sx1.keep ks
  let X2 : XS := fun a => g.X a ∨ a = C
  have kx12 : Kx g.X X2 s1.heap s'.heap := fun b o nb e => ⟨fun q => q.elim nb fun q => (by rw [q, fC] at e; cases e), ks.keep b o e⟩
  have frw : Frame X2 g.env g.ρ s'.heap := (c1.fr.widen (fun a q => .inl q) fun b o nb e q => q.elim nb fun q => by rw [q, fC] at e; cases e).keep ks.keep
  have lv2 : Live X2 s'.heap := by
    rintro a (q | q)
    · exact sx2.cx.live a q
    · subst q; obtain ⟨o, _, _, e, _⟩ := hm; exact ⟨o, e⟩
  have cx2 : Cx H0 { g with X := X2 } s' := ⟨frw, c1.wd.kx kx12, lv2, sx2.cx.om, c1.ok⟩
  have nFa : ¬ Fa g.env C := fun fa => by
    obtain ⟨o, e, _⟩ := c1.fr.fa_kind fa
    rw [fC] at e; cases e
  have hr2 : ((tList u).at ((xs.filter p).map f)).rel X2 s'.heap (.ref D) := (tList u).mono hr fun b o nb e => ⟨fun q => q.elim (fun q => nb (hX b q)) fun q => nb (q ▸ xC), e⟩
  refine wpAny_assign_Name (store (g := { g with X := X2 }) (b := (tList u).at ((xs.filter p).map f)) ⟨cx2, sx2.k0, sx2.wl, sx2.wc⟩ hr2 hΩ hk fun s3 sx3 ko => ?_)
  obtain ⟨oC, esC, epC, hoC, rC⟩ := id hm
  refine ⟨m', ⟨oC, esC, epC, ko.get nFa hoC, rC⟩, fun h' sb => k _ ?_⟩
  have fr3 := sx3.cx.fr.off (Z := fun a => a = C) (h' := h') (fun b o nb e => (sb.2 b nb).trans e) (fun a q => .inr q) (fun a q => q ▸ nFa)
  have kx3 : Kx X2 g.X s3.heap h' := fun b o nb e => ⟨fun q => nb (.inl q), (sb.2 b fun q => nb (.inr q)).trans e⟩
  obtain ⟨m3, hm3, hv3⟩ := fr3.vars
  refine ⟨⟨⟨fr3.kind, fr3.gl, fr3.bi, c1.fr.xl, ⟨m3, hm3, fun n b e => ?_⟩, fun n c e => ?_, fr3.apart⟩, sx3.cx.wd.kx kx3, fun a q => ?_, hΩ s1.heap h' (fun b o nb e => (sb.2 b (fun q => by rw [q, fC] at e; cases e)).trans (ko.get nb (ks.keep b o e))) c1.om, c1.ok⟩, ?_, sx.wl, sx.wc⟩
  · obtain ⟨v', r', q'⟩ := hv3 n b e
    exact ⟨v', b.mono r' fun b o nb e => ⟨fun q => nb (.inl q), e⟩, q'⟩
  · obtain ⟨_, v', h3⟩ := fr3.cells n c e
    exact ⟨(c1.fr.cells n c e).1, v', h3⟩
  · obtain ⟨o, e⟩ := sx3.cx.live a (.inl q)
    by_cases z : a = C
    · subst z; obtain ⟨o', e'⟩ := c1.live a q; rw [fC] at e'; cases e'
    · exact ⟨o, (sb.2 a z).trans e⟩
  · obtain ⟨h0, t0, rfl, kq⟩ := sx3.k0
    refine ⟨h', t0, rfl, fun b o nb e => (sb.2 b fun q => ?_).trans (kq b o nb e)⟩
    have := sx1.k0.get nb e
    rw [q, fC] at this; cases this
end
end Mine
end

section
open PySem PySem.W PyProof.Rows
namespace Mine
set_option linter.unusedVariables false

theorem Frame.narrow {X X' : XS} {env : Env} {ρ : List (Str × Bd)} {h : Heap} (x : Frame X' env ρ h) (hX : ∀ a, X a → X' a) (hF : ∀ a, Fa env a → X a) : Frame X env ρ h := by
  obtain ⟨m, hm, hv⟩ := x.vars
  refine ⟨x.kind, x.gl, x.bi, hF _ (.inl rfl), ⟨m, hm, fun n b e => ?_⟩, fun n c e => ?_, x.apart⟩
  · obtain ⟨v, r, q⟩ := hv n b e
    exact ⟨v, b.mono r fun b o nb e => ⟨fun q => nb (hX b q), e⟩, q⟩
  · obtain ⟨_, v, hc⟩ := x.cells n c e
    exact ⟨hF _ (.inr ⟨n, e⟩), v, hc⟩
theorem Frame.fa_x {X : XS} {env : Env} {ρ : List (Str × Bd)} {h : Heap} (x : Frame X env ρ h) {a : Addr} (fa : Fa env a) : X a := by
  rcases fa with rfl | ⟨n, e⟩
  · exact x.xl
  · exact (x.cells n a e).1

/-- stable when an iterator is turned -/
def Hp.StIt (Ω : Hp) (I : Addr) : Prop := ∀ (h h' : Heap) (o : Obj) (fs : Array Value), h.get? I = some o → o.data = .fields fs → (∀ b o, b ≠ I → h.get? b = some o → h'.get? b = some o) → Ω.p h → Ω.p h'
theorem hTrue_it {I : Addr} : hTrue.StIt I := fun _ _ _ _ _ _ _ _ => trivial

abbrev xI (X : XS) (I : Addr) : XS := fun a => X a ∨ a = I
abbrev wF (env : Env) (Zb : XS) : XS := fun a => Fa env a ∨ Zb a

section
variable {prog : Program} {w : World} {H0 : Heap} {Z : XS} {s₀ s : Shared} {g : Γ}

theorem exec_for {iter : Expr} {x : Str} {px pos : Pos} {body orelse : List Stmt} {b : Bd} {bs : List Bd} {E : Value → Shared → Prop} {Q : Flow → Shared → Prop}
    (sx : Sx H0 Z s₀ g s) (he : Ev prog w H0 g g.X iter b) (hI : Iter prog w H0 g b bs)
    (ρs : Nat → List (Str × Bd)) (Ωs : Addr → Nat → Hp) (Zb : XS)
    (h0 : ∀ n b, (ρs 0).lookup n = some b → g.ρ.lookup n = some b) (hΩ0 : ∀ I h, h.get? I = none → g.Ω.p h → (Ωs I 0).p h) (hΩF : ∀ I i, (Ωs I i).StOff (Fa g.env)) (hΩI : ∀ I i, (Ωs I i).StIt I)
    (hZX : ∀ a, Zb a → g.X a) (hZ : ∀ a, Zb a → Z a ∨ s₀.heap.get? a = none)
    (hk : g.env.kindOf x = some .local ∨ (g.env.kindOf x = some .cell ∧ (g.env.cells.lookup x).isSome = true))
    (hbody : ∀ i bi I s₁ s', bs[i]? = some bi → Sx H0 (wF g.env Zb) s₁ { g with X := xI g.X I, ρ := (x, bi) :: ρs i, Ω := Ωs I i } s' →
      wpAny (model prog w) g.A (execs body g.env) (fun fl s'' => (fl = .next ∨ fl = .cont) ∧ Sx H0 (wF g.env Zb) s₁ { g with X := xI g.X I, ρ := ρs (i + 1), Ω := Ωs I (i + 1) } s'') (fun _ _ => False) s')
    (hend : ∀ I s', Sx H0 Z s₀ { g with ρ := ρs bs.length, Ω := Ωs I bs.length } s' → Q .next s')
    (hs : ∀ x, foldedSetIterable iter g.env x = pure x) (hor : orelse = []) :
    wpAny (model prog w) g.A (exec (.For (.Name x px) iter body orelse pos) g.env) Q E s := by
  subst hor
  refine wpAny_For (he.use sx.cx fun v s1 k1 c1 r1 => hI s1 v _ _ c1 r1 fun I s2 St P fp o fs k12 hI0 eI dI W st hIf hfp hitem => ?_) hs
  have sx1 := sx.keep k1
  have IX : ¬ g.X I := fun q => by obtain ⟨o, e⟩ := c1.live I q; rw [hI0] at e; cases e
  have IZ : ¬ Zb I := fun q => IX (hZX I q)
  let WI : XS := fun a => wF g.env Zb a ∨ a = I
  have faX : ∀ a, Fa g.env a → g.X a := fun a fa => c1.fr.fa_x fa
  have IF : ¬ Fa g.env I := fun q => IX (faX I q)
  have wX : ∀ a, WI a → xI g.X I a := by
    rintro a ((q | q) | q)
    · exact .inl (faX a q)
    · exact .inl (hZX a q)
    · exact .inr q
  have mkKx : ∀ {s' : Shared}, KOff WI s1 s' → Kx g.X (xI g.X I) s1.heap s'.heap := by
    intro s' ko b o nb e
    have nI : b ≠ I := fun q => by rw [q, hI0] at e; cases e
    exact ⟨fun q => q.elim nb nI, ko.get (fun q => (wX b q).elim nb nI) e⟩
  have mkWd : ∀ {s' : Shared}, KOff WI s1 s' → Wd H0 (xI g.X I) s'.heap := fun ko => c1.wd.kx (mkKx ko)
  refine codeAny_forLoop (fun k s' => ∃ i, i ≤ bs.length ∧ k = bs.length + 1 - i ∧ KOff WI s1 s' ∧ Frame (xI g.X I) g.env (ρs i) s'.heap ∧ Live (xI g.X I) s'.heap ∧ (Ωs I i).p s'.heap ∧ St i s'.heap) ?_ (bs.length + 1) ⟨0, Nat.zero_le _, rfl, KOff.of_keeps k12, ?_, ?_, ?_, st⟩
  · rintro k s' ⟨i, hi, rfl, ko, fr, lv, om, st'⟩
    obtain ⟨oI, fsI, eI', dI'⟩ := hIf _ _ st'
    by_cases hlt : i < bs.length
    · refine W.item i _ _ _ hlt st' fun v h1 tk1 hP st1 hk1 => ?_
      have hk1' : ∀ b o, b ≠ I → s'.heap.get? b = some o → h1.get? b = some o := fun b o nb e => hk1 b o (by simpa using nb) e
      have ko1 : KOff WI s1 { s' with heap := h1, toks := tk1 } := by
        obtain ⟨hh, tt, rfl, kq⟩ := ko
        exact ⟨h1, tk1, rfl, fun b o nb e => hk1' b o (fun q => nb (.inr q)) (kq b o nb e)⟩
      have fr1 : Frame (xI g.X I) g.env (ρs i) h1 := fr.off (Z := fun a => a = I) (fun b o nb e => hk1' b o nb e) (fun a q => .inr q) (fun a q => q ▸ IF)
      have lv1 : Live (xI g.X I) h1 := fun a q => by
        by_cases z : a = I
        · subst z; obtain ⟨o, fs, e, _⟩ := hIf _ _ st1; exact ⟨o, e⟩
        · obtain ⟨o, e⟩ := lv a q; exact ⟨o, hk1' a o z e⟩
      obtain ⟨bi, hbi⟩ : ∃ bi, bs[i]? = some bi := ⟨bs[i], by simp [hlt]⟩
      have hb : bi.rel (xI g.X I) h1 v := hitem i v (xI g.X I) h1 bi hbi hP (mkKx ko1)
      have cx1 : Cx H0 { g with X := xI g.X I, ρ := ρs i, Ω := Ωs I i } { s' with heap := h1, toks := tk1 } := ⟨fr1, mkWd ko1, lv1, hΩI I i _ _ _ _ eI' dI' hk1' om, c1.ok⟩
      refine wpAny_assign_Name (storeC (g := { g with X := xI g.X I, ρ := ρs i, Ω := Ωs I i }) (b := bi) cx1 hb (fun a h' fn sb => hΩF I i _ _ (fun b o nb e => (sb.2 b fun q => nb (q ▸ fn.imp id fun e => ⟨x, e⟩)).trans e) cx1.om) hk fun s2' a cx2 fn ka => ?_)
      have fa2 : Fa g.env a := fn.imp id fun e => ⟨x, e⟩
      have sx2 : Sx H0 (wF g.env Zb) { s' with heap := h1, toks := tk1 } { g with X := xI g.X I, ρ := (x, bi) :: ρs i, Ω := Ωs I i } s2' :=
        ⟨cx2, ka.mono fun b q => .inl ((show b = a from q) ▸ fa2), .inl (.inl (.inl rfl)), fun n c e => .inl (.inl (.inr ⟨n, e⟩))⟩
      refine wpAny_mono (hbody i bi I _ s2' hbi sx2) (fun fl s3 q3 => ?_) fun _ _ e => e.elim
      obtain ⟨hfl, sx3⟩ := q3
      have fin : ∃ m, m < bs.length + 1 - i ∧ ∃ i', i' ≤ bs.length ∧ m = bs.length + 1 - i' ∧ KOff WI s1 s3 ∧ Frame (xI g.X I) g.env (ρs i') s3.heap ∧ Live (xI g.X I) s3.heap ∧ (Ωs I i').p s3.heap ∧ St i' s3.heap := by
        refine ⟨bs.length + 1 - (i + 1), by omega, i + 1, hlt, rfl, ko1.trans sx3.k0 fun b o nb e => ⟨nb, fun q => nb (.inl q)⟩, sx3.cx.fr, sx3.cx.live, sx3.cx.om, W.frame _ _ _ st1 fun b hb o e => sx3.k0.get (fun q => ?_) e⟩
        rcases hfp b hb with z | ⟨z, _⟩
        · subst z
          rcases q with q | q
          · exact IF q
          · exact IZ q
        · rcases q with q | q
          · exact z (faX b q)
          · exact z (hZX b q)
      rcases hfl with rfl | rfl
      · exact fin
      · exact fin
    · have hin : i = bs.length := by omega
      subst hin
      refine W.done _ _ _ st' fun h1 tk1 hk1 => wpAny_execs_nil (hend I _ ?_)
      have hk1' : ∀ b o, b ≠ I → s'.heap.get? b = some o → h1.get? b = some o := fun b o nb e => hk1 b o (by simpa using nb) e
      have ko1 : KOff WI s1 { s' with heap := h1, toks := tk1 } := by
        obtain ⟨hh, tt, rfl, kq⟩ := ko
        exact ⟨h1, tk1, rfl, fun b o nb e => hk1' b o (fun q => nb (.inr q)) (kq b o nb e)⟩
      have fr1 : Frame (xI g.X I) g.env (ρs bs.length) h1 := fr.off (Z := fun a => a = I) (fun b o nb e => hk1' b o nb e) (fun a q => .inr q) (fun a q => q ▸ IF)
      refine ⟨⟨fr1.narrow (fun a q => .inl q) faX, (mkWd ko1).kx fun b o nb e => ⟨fun q => nb (.inl q), e⟩, fun a q => ?_, hΩI I _ _ _ _ _ eI' dI' hk1' om, c1.ok⟩, ?_, sx.wl, sx.wc⟩
      · obtain ⟨o, e⟩ := lv a (.inl q)
        exact ⟨o, hk1' a o (fun z => IX (z ▸ q)) e⟩
      · refine sx1.k0.trans ko1 fun b o nb e => ⟨nb, fun q => ?_⟩
        rcases q with (q | q) | q
        · rcases q with q | ⟨n, q⟩
          · rcases sx.wl with z | z
            · exact nb (q ▸ z)
            · rw [q, z] at e; cases e
          · rcases sx.wc n b q with z | z
            · exact nb z
            · rw [z] at e; cases e
        · rcases hZ b q with z | z
          · exact nb z
          · rw [z] at e; cases e
        · have := sx1.k0.get nb e
          rw [q, hI0] at this; cases this
  · exact ((c1.fr.widen (X' := xI g.X I) (fun a q => .inl q) fun b o nb e q => q.elim nb fun q => (by rw [q, hI0] at e; cases e)).keep k12.keep).sub h0
  · rintro a (q | q)
    · obtain ⟨o, e⟩ := c1.live a q; exact ⟨o, k12.keep a o e⟩
    · subst q; exact ⟨o, eI⟩
  · exact (Ωs I 0).mono (hΩ0 I _ hI0 c1.om) k12.keep

theorem st_forG {iter : Expr} {x : Str} {px pos : Pos} {body orelse rest : List Stmt} {b : Bd} {bs : List Bd} {E : Value → Shared → Prop} {Q : Flow → Shared → Prop}
    (sx : Sx H0 Z s₀ g s) (he : Ev prog w H0 g g.X iter b) (hI : Iter prog w H0 g b bs)
    (ρs : Nat → List (Str × Bd)) (Ωs : Addr → Nat → Hp) (Zb : XS)
    (h0 : ∀ n b, (ρs 0).lookup n = some b → g.ρ.lookup n = some b) (hΩ0 : ∀ I h, h.get? I = none → g.Ω.p h → (Ωs I 0).p h) (hΩF : ∀ I i, (Ωs I i).StOff (Fa g.env)) (hΩI : ∀ I i, (Ωs I i).StIt I)
    (hZX : ∀ a, Zb a → g.X a) (hZ : ∀ a, Zb a → Z a ∨ s₀.heap.get? a = none)
    (hk : g.env.kindOf x = some .local ∨ (g.env.kindOf x = some .cell ∧ (g.env.cells.lookup x).isSome = true))
    (hbody : ∀ i bi I s₁ s', bs[i]? = some bi → Sx H0 (wF g.env Zb) s₁ { g with X := xI g.X I, ρ := (x, bi) :: ρs i, Ω := Ωs I i } s' →
      wpAny (model prog w) g.A (execs body g.env) (fun fl s'' => (fl = .next ∨ fl = .cont) ∧ Sx H0 (wF g.env Zb) s₁ { g with X := xI g.X I, ρ := ρs (i + 1), Ω := Ωs I (i + 1) } s'') (fun _ _ => False) s')
    (hend : ∀ I s', Sx H0 Z s₀ { g with ρ := ρs bs.length, Ω := Ωs I bs.length } s' → wpAny (model prog w) g.A (execs rest g.env) Q E s')
    (hs : ∀ x, foldedSetIterable iter g.env x = pure x) (hor : orelse = []) :
    wpAny (model prog w) g.A (execs (.For (.Name x px) iter body orelse pos :: rest) g.env) Q E s :=
  wpAny_execs_cons (exec_for sx he hI ρs Ωs Zb h0 hΩ0 hΩF hΩI hZX hZ hk hbody hend hs hor)

/-- a list of the call's own that grows -/
def hList {β : Type} (X : XS) (u : Ty β) (D : Addr) (ys : List β) : Hp := ⟨fun h => ∃ vs, PlainL h D vs.toArray ∧ All2 (fun v y => u.rel X h v y) vs ys, by
  rintro h h' ⟨vs, l, r⟩ k
  exact ⟨vs, l.at fun o e => k _ _ e, r.imp fun _ _ q => u.mono q (Kx.of_keep k)⟩⟩
theorem hList_off {β : Type} {X : XS} {u : Ty β} {D : Addr} {ys : List β} {Z : XS} (hD : ¬ Z D) (hZ : ∀ a, Z a → X a) : (hList X u D ys).StOff Z := by
  rintro h h' k ⟨vs, l, r⟩
  exact ⟨vs, l.at fun o e => k _ _ hD e, r.imp fun _ _ q => u.mono q fun b o n e => ⟨n, k b o (fun z => n (hZ b z)) e⟩⟩
theorem plainL_ne {h : Heap} {D I : Addr} {vs fs : Array Value} {o : Obj} (l : PlainL h D vs) (e : h.get? I = some o) (hd : o.data = .fields fs) : D ≠ I := by
  rintro rfl
  obtain ⟨o', n, e', _, _, hd'⟩ := l
  rw [e] at e'; cases e'
  rw [hd] at hd'; cases hd'
theorem hList_it {β : Type} {X : XS} {u : Ty β} {D I : Addr} {ys : List β} (hI : X I) : (hList X u D ys).StIt I := by
  rintro h h' o fs e hd k ⟨vs, l, r⟩
  exact ⟨vs, l.at fun o' e' => k _ _ (plainL_ne l e hd) e', r.imp fun _ _ q => u.mono q fun b o n e => ⟨n, k b o (fun z => n (z ▸ hI)) e⟩⟩
theorem hList_widen {β : Type} {X X' : XS} {u : Ty β} {D : Addr} {ys : List β} {h : Heap} (x : (hList X u D ys).p h) (hX : ∀ b o, ¬ X b → h.get? b = some o → ¬ X' b) : (hList X' u D ys).p h := by
  obtain ⟨vs, l, r⟩ := x
  exact ⟨vs, l, r.imp fun _ _ q => u.mono q fun b o n e => ⟨hX b o n e, e⟩⟩
theorem plainL_isList {h : Heap} {D : Addr} {vs : Array Value} (l : PlainL h D vs) : h.IsList D vs := by
  obtain ⟨o, n, e, hc, _, hd⟩ := l
  exact ⟨o, e, hc, n, hd⟩

theorem st_appendG {β : Type} {u : Ty β} {D : Addr} {out : Str} {ys : List β} {y : β} {e : Expr} {np apos cpos pos : Pos} {rest : List Stmt} {E : Value → Shared → Prop} {Q : Flow → Shared → Prop}
    (sx : Sx H0 Z s₀ g s) (hv : g.ρ.lookup out = some (bVal (.ref D))) (hn : (out == ("__classdict__" : Str)) = false) (hd : (out == ("__debug__" : Str)) = false)
    (hΩ : g.Ω = hList g.X u D ys) (he : Ev prog w H0 g g.X e (u.at y)) (hX : g.X D) (hF : ¬ Fa g.env D) (hZ : Z D ∨ s₀.heap.get? D = none) (hsz : ys.length ≤ 16777216)
    (hst : ∀ env, starEach [e] env = [(false, eval e env)]) (hbase : attributeBase (.Name out np) "append" g.env (eval (.Name out np) g.env) = eval (.Name out np) g.env) (hline : (apos.endLine == cpos.line) = true)
    (hi : interactive g.env = false)
    (k : ∀ s', Sx H0 Z s₀ { g with Ω := hList g.X u D (ys ++ [y]) } s' → wpAny (model prog w) g.A (execs rest g.env) Q E s') :
    wpAny (model prog w) g.A (execs (.Expr (.Call (.Attribute (.Name out np) "append" apos) [e] [] cpos) pos :: rest) g.env) Q E s := by
  refine wpAny_execs_cons (wpAny_Expr (wpAny_Call_append hbase (by rw [hst]; rfl) hline (by rw [hst]; rfl) ((ev_var hv hn hd).use sx.cx fun v s1 k1 c1 r1 => ?_)) hi rfl)
  obtain rfl : v = .ref D := r1
  have om1 : (hList g.X u D ys).p s1.heap := hΩ ▸ c1.om
  obtain ⟨vs, l1, r1⟩ := om1
  refine ⟨D, _, rfl, l1, he.use c1 fun v s2 k2 c2 r2 => ?_⟩
  have om2 : (hList g.X u D ys).p s2.heap := hΩ ▸ c2.om
  obtain ⟨vs2, l2, q2⟩ := om2
  refine list_append_plainL (hsz := by rw [sizeLine_eq]; have := q2.length; simp; omega) l2 fun h3 l3 sb3 => ?_
  have kx : Kx g.X g.X s2.heap h3 := fun b o n e => ⟨n, (sb3.2 b fun q => n (q ▸ hX)).trans e⟩
  have sx2 := (sx.keep k1).keep k2
  refine k _ ⟨⟨c2.fr.off (Z := fun a => a = D) (fun b o nb e => (sb3.2 b nb).trans e) (fun a q => q ▸ hX) (fun a q => q ▸ hF), c2.wd.kx kx, fun a q => ?_, ⟨vs2 ++ [v], by simpa using l3, ?_⟩, c2.ok⟩, ?_, sx.wl, sx.wc⟩
  · by_cases z : a = D
    · subst z; obtain ⟨o, _, e, _⟩ := l3; exact ⟨o, e⟩
    · obtain ⟨o, e⟩ := c2.live a q; exact ⟨o, (sb3.2 a z).trans e⟩
  · exact (q2.imp fun _ _ q => u.mono q kx).append (.cons (u.mono r2 kx) .nil)
  · obtain ⟨h0, t0, rfl, kq⟩ := sx2.k0
    refine ⟨h3, _, rfl, fun b o nb e => (sb3.2 b fun q => ?_).trans (kq b o nb e)⟩
    subst q
    rcases hZ with z | z
    · exact nb z
    · rw [z] at e; cases e

/-- an own empty list -/
theorem st_newlistG {β : Type} (u : Ty β) {n : Str} {np lp pos : Pos} {rest : List Stmt} {E : Value → Shared → Prop} {Q : Flow → Shared → Prop}
    (sx : Sx H0 Z s₀ g s) (hΩ : g.Ω = hTrue) (hk : g.env.kindOf n = some .local ∨ (g.env.kindOf n = some .cell ∧ (g.env.cells.lookup n).isSome = true))
    (k : ∀ D s', s.heap.get? D = none → s₀.heap.get? D = none ∨ Z D → Sx H0 Z s₀ { g with X := xI g.X D, ρ := (n, bVal (.ref D)) :: g.ρ, Ω := hList (xI g.X D) u D [] } s' → ¬ Fa g.env D → wpAny (model prog w) g.A (execs rest g.env) Q E s') :
    wpAny (model prog w) g.A (execs (.Assign [.Name n np] (.List [] lp) pos :: rest) g.env) Q E s := by
  refine wpAny_execs_cons (wpAny_Assign_Name (List_ (Calls.spliced_nil (wpAny_newObj_type ?_))))
  have fD : s.heap.get? s.heap.objs.size = none := get_none_of_size (Nat.le_refl _)
  have nX : ¬ g.X s.heap.objs.size := sx.cx.live.fresh
  have kp := Keeps.push s { cls := .type "list", dict := none, data := .seq ([] : List Value).toArray }
  have sx1 := sx.keep kp
  have wid : ∀ b o, ¬ g.X b → s.heap.get? b = some o → ¬ xI g.X s.heap.objs.size b := fun b o nb e q => q.elim nb fun q => by rw [q, fD] at e; cases e
  have nF : ¬ Fa g.env s.heap.objs.size := fun fa => nX (sx.cx.fr.fa_x fa)
  have pl : PlainL (s.heap.push { cls := .type "list", dict := none, data := .seq ([] : List Value).toArray }) s.heap.objs.size #[] := ⟨_, _, Heap.get?_push_size _ rfl, rfl, rfl, rfl⟩
  have cx1 : Cx H0 { g with X := xI g.X s.heap.objs.size, Ω := hList (xI g.X s.heap.objs.size) u s.heap.objs.size [] } { s with heap := s.heap.push { cls := .type "list", dict := none, data := .seq ([] : List Value).toArray } } := by
    refine ⟨(sx.cx.fr.widen (fun a q => .inl q) wid).keep kp.keep, sx.cx.wd.kx fun b o nb e => ⟨wid b o nb e, kp.keep b o e⟩, ?_, ⟨[], pl, .nil⟩, sx.cx.ok⟩
    rintro a (q | q)
    · exact sx1.cx.live a q
    · subst q; obtain ⟨o, _, e, _⟩ := pl; exact ⟨o, e⟩
  have fresh0 : s₀.heap.get? s.heap.objs.size = none ∨ Z s.heap.objs.size := by
    by_cases z : Z s.heap.objs.size
    · exact .inr z
    · left
      cases q : s₀.heap.get? s.heap.objs.size with
      | none => rfl
      | some o => have := sx.k0.get z q; rw [fD] at this; cases this
  refine store (g := { g with X := xI g.X s.heap.objs.size, Ω := hList (xI g.X s.heap.objs.size) u s.heap.objs.size [] }) (b := bVal (.ref s.heap.objs.size)) ⟨cx1, sx1.k0, sx.wl, sx.wc⟩ rfl (hList_off nF fun a fa => .inl (sx.cx.fr.fa_x fa)) hk fun s' sx' _ => ?_
  exact k _ s' fD fresh0 sx' nF
end

section
variable {prog : Program} {w : World} {H0 : Heap} {Z X0 X : XS} {s₀ s : Shared} {A : Around} {env : Env} {ρ : List (Str × Bd)} {Ω : Hp} {m : Nat} {pos p : Pos} {e : Expr} {b r : Bd} {E : Value → Shared → Prop} {Q : Flow → Shared → Prop} {rest : List Stmt} {α β : Type} {u : Ty β}
theorem st_comp {elt iter : Expr} {x y : Str} {px py pos spos : Pos} {ifs : List Expr} {scope : Scope} {xs : List α} {bnd : α → Bd} {p : α → Bool} {f : α → β}
    (sx : Sx H0 Z s₀ ⟨A, X, env, ρ, Ω, m⟩ s)
    (hit : Ev prog w H0 ⟨A, X, env, ρ, Ω, m⟩ X iter b) (hI : Iter prog w H0 ⟨A, X, env, ρ, Ω, m⟩ b (xs.map bnd)) (ok : CompOk scope env x) (hsz : xs.length ≤ 16777216)
    (hq : ∀ z ∈ xs, ∀ (X' : XS) (C : Addr), (∀ a, X a → X' a) → TsL prog w H0 (gC ⟨A, X, env, ρ, Ω, m⟩ X' scope C x (bnd z)) ifs (p z) ∧ (p z = true → Ev prog w H0 (gC ⟨A, X, env, ρ, Ω, m⟩ X' scope C x (bnd z)) X' elt (u.at (f z))))
    (hs : ∀ x, foldedSetIterable iter env x = pure x)
    (hsw : swapsWith (.ListComp elt [⟨.Name x px, iter, ifs, 0⟩] scope pos) (some (.Name y py)) spos.line env = pure true)
    (hΩ : Ω.StOff (Fa env)) (hk : env.kindOf y = some .local ∨ (env.kindOf y = some .cell ∧ (env.cells.lookup y).isSome = true))
    (k : ∀ s', Sx H0 Z s₀ ⟨A, X, env, (y, (tList u).at ((xs.filter p).map f)) :: ρ, Ω, m⟩ s' → wpAny (model prog w) A (execs rest env) Q E s') :
    wpAny (model prog w) A (execs (.Assign [.Name y py] (.ListComp elt [⟨.Name x px, iter, ifs, 0⟩] scope pos) spos :: rest) env) Q E s := st_compG sx hit hI ok hsz hq hs hsw hΩ hk k
theorem st_for {iter : Expr} {x : Str} {px pos : Pos} {body orelse rest : List Stmt} {bs : List Bd}
    (sx : Sx H0 Z s₀ ⟨A, X, env, ρ, Ω, m⟩ s) (he : Ev prog w H0 ⟨A, X, env, ρ, Ω, m⟩ X iter b) (hI : Iter prog w H0 ⟨A, X, env, ρ, Ω, m⟩ b bs)
    (ρs : Nat → List (Str × Bd)) (Ωs : Addr → Nat → Hp) (Zb : XS)
    (h0 : ∀ n b, (ρs 0).lookup n = some b → ρ.lookup n = some b) (hΩ0 : ∀ I h, h.get? I = none → Ω.p h → (Ωs I 0).p h) (hΩF : ∀ I i, (Ωs I i).StOff (Fa env)) (hΩI : ∀ I i, (Ωs I i).StIt I)
    (hZX : ∀ a, Zb a → X a) (hZ : ∀ a, Zb a → Z a ∨ s₀.heap.get? a = none)
    (hk : env.kindOf x = some .local ∨ (env.kindOf x = some .cell ∧ (env.cells.lookup x).isSome = true))
    (hbody : ∀ i bi I s₁ s', bs[i]? = some bi → Sx H0 (wF env Zb) s₁ ⟨A, xI X I, env, (x, bi) :: ρs i, Ωs I i, m⟩ s' →
      wpAny (model prog w) A (execs body env) (fun fl s'' => (fl = .next ∨ fl = .cont) ∧ Sx H0 (wF env Zb) s₁ ⟨A, xI X I, env, ρs (i + 1), Ωs I (i + 1), m⟩ s'') (fun _ _ => False) s')
    (hend : ∀ I s', Sx H0 Z s₀ ⟨A, X, env, ρs bs.length, Ωs I bs.length, m⟩ s' → wpAny (model prog w) A (execs rest env) Q E s')
    (hs : ∀ x, foldedSetIterable iter env x = pure x) (hor : orelse = []) :
    wpAny (model prog w) A (execs (.For (.Name x px) iter body orelse pos :: rest) env) Q E s := st_forG sx he hI ρs Ωs Zb h0 hΩ0 hΩF hΩI hZX hZ hk hbody hend hs hor
theorem st_append {D : Addr} {out : Str} {ys : List β} {y : β} {np apos cpos pos : Pos}
    (sx : Sx H0 Z s₀ ⟨A, X, env, ρ, hList X u D ys, m⟩ s) (hv : ρ.lookup out = some (bVal (.ref D))) (hn : (out == ("__classdict__" : Str)) = false) (hd : (out == ("__debug__" : Str)) = false)
    (he : Ev prog w H0 ⟨A, X, env, ρ, hList X u D ys, m⟩ X e (u.at y)) (hX : X D) (hF : ¬ Fa env D) (hZ : Z D ∨ s₀.heap.get? D = none) (hsz : ys.length ≤ 16777216)
    (hst : ∀ env, starEach [e] env = [(false, eval e env)]) (hbase : attributeBase (.Name out np) "append" env (eval (.Name out np) env) = eval (.Name out np) env) (hline : (apos.endLine == cpos.line) = true)
    (hi : interactive env = false)
    (k : ∀ s', Sx H0 Z s₀ ⟨A, X, env, ρ, hList X u D (ys ++ [y]), m⟩ s' → wpAny (model prog w) A (execs rest env) Q E s') :
    wpAny (model prog w) A (execs (.Expr (.Call (.Attribute (.Name out np) "append" apos) [e] [] cpos) pos :: rest) env) Q E s := st_appendG sx hv hn hd rfl he hX hF hZ hsz hst hbase hline hi k
theorem st_newlist (u : Ty β) {n : Str} {np lp pos : Pos}
    (sx : Sx H0 Z s₀ ⟨A, X, env, ρ, hTrue, m⟩ s) (hk : env.kindOf n = some .local ∨ (env.kindOf n = some .cell ∧ (env.cells.lookup n).isSome = true))
    (k : ∀ D s', s.heap.get? D = none → s₀.heap.get? D = none ∨ Z D → Sx H0 Z s₀ ⟨A, xI X D, env, (n, bVal (.ref D)) :: ρ, hList (xI X D) u D [], m⟩ s' → ¬ Fa env D → wpAny (model prog w) A (execs rest env) Q E s') :
    wpAny (model prog w) A (execs (.Assign [.Name n np] (.List [] lp) pos :: rest) env) Q E s := st_newlistG u sx rfl hk k

/-- the own list as a list -/
theorem ev_own {g : Γ} {X' : XS} {D : Addr} {out : Str} {ys : List β} {np : Pos} (hv : g.ρ.lookup out = some (bVal (.ref D))) (hΩ : g.Ω = hList X' u D ys) (hn : (out == ("__classdict__" : Str)) = false) (hd : (out == ("__debug__" : Str)) = false) :
    Ev prog w H0 g (fun a => X' a ∧ a ≠ D) (.Name out np) ((tList u).at ys) := by
  intro s c E
  refine (ev_var hv hn hd).use c fun v s1 k1 c1 r1 => ⟨k1, ?_⟩
  obtain rfl : v = .ref D := r1
  have om1 : (hList X' u D ys).p s1.heap := hΩ ▸ c1.om
  obtain ⟨vs, l1, r1⟩ := om1
  exact ⟨D, vs, rfl, fun q => q.2 rfl, l1.isList, r1.imp fun _ _ q => u.mono q fun b o n e => ⟨fun z => n z.1, e⟩⟩

/-- each of ρ' stands in ρ -/
def SubM (ρ : List (Str × Bd)) : List (Str × Bd) → Prop
  | [] => True
  | p :: r => ρ.lookup p.1 = some p.2 ∧ SubM ρ r
theorem SubM.get {ρ : List (Str × Bd)} : ∀ {ρ' : List (Str × Bd)}, SubM ρ ρ' → ∀ n b, ρ'.lookup n = some b → ρ.lookup n = some b
  | [], _, n, b, h => by simp at h
  | (k, c) :: r, hs, n, b, h => by
    simp only [List.lookup_cons] at h
    cases q : n == k with
    | true =>
      simp only [q] at h
      have e : n = k := by simpa using q
      rw [e, hs.1, ← h]
    | false => simp only [q] at h; exact hs.2.get n b h
theorem Sx.sub {ρ' : List (Str × Bd)} (x : Sx H0 Z s₀ ⟨A, X, env, ρ, Ω, m⟩ s) (h : SubM ρ ρ') : Sx H0 Z s₀ ⟨A, X, env, ρ', Ω, m⟩ s :=
  ⟨⟨x.cx.fr.sub h.get, x.cx.wd, x.cx.live, x.cx.om, x.cx.ok⟩, x.k0, x.wl, x.wc⟩
theorem Sx.om {Ω' : Hp} (x : Sx H0 Z s₀ ⟨A, X, env, ρ, Ω, m⟩ s) (h : ∀ h, Ω.p h → Ω'.p h) : Sx H0 Z s₀ ⟨A, X, env, ρ, Ω', m⟩ s :=
  ⟨⟨x.cx.fr, x.cx.wd, x.cx.live, h _ x.cx.om, x.cx.ok⟩, x.k0, x.wl, x.wc⟩
theorem hList_narrow {X X' : XS} {D : Addr} {ys : List β} (hX : ∀ a, X' a → X a) : ∀ h, (hList X u D ys).p h → (hList X' u D ys).p h :=
  fun h x => hList_widen x fun b o n _ q => n (hX b q)
end
end Mine
end

section
open PySem PySem.W PyProof.Rows
set_option maxRecDepth 100000
set_option maxHeartbeats 8000000
namespace Mine
/-- the law's own def alone; every other name of the text is loose -/
def topView : Program := view PySem.Challenge.pw_qh0018_01 [38]
def topLoose : List Str := ["_wall", "_initial_missing", "reduce", "_c3_merge", "bytes_types", "_bytes_from_decode_data", "Error", "_ascii_buffer", "_buffer", "_truth", "_B64", "_b64_value", "a2b_base64", "b2a_base64", "b64encode", "b64decode", "standard_b64encode", "standard_b64decode", "_urlsafe_encode_translation", "_urlsafe_decode_translation", "urlsafe_b64encode", "urlsafe_b64decode", "_law_packets", "_law_lines", "_law_quad", "_law_write", "_law_word", "_law_read", "_law_cut", "_law_join", "_law_merge", "_law_told", "_law_named"].map Str.ofString
abbrev topSeen (s : Shared) : Bool := xlAt topView [] s && recOk (RowW.records (OpenRow.toRowW PySem.Challenge.rw_qh0018_01.row)) s

theorem topLaw (h : PySem.Challenge.rw_qh0018_01.row.wellSaid = true → PySem.Challenge.rw_qh0018_01.row.Holds) : PySem.Challenge.rw_qh0018_01.Holds := by
  w_on
  o_law
  exact h ‹_›
/-- the run of the text's top, behind the boot -/
noncomputable def topRun0 (w : World) (os : OsState) : Option Shared := topRun treeTable PySem.Challenge.pw_qh0018_01 w 11 (some (.ref 6)) 1180 ⟨boot_heap w.params, Array.mk [], boot_drawn, boot_toks, os⟩ (topStub PySem.Challenge.pw_qh0018_01)
/-- this look has the library lay its quick twin of topRun0 (its name bears the hash of the name Mine.topRun0) -/
theorem topTwin : (fun _ : World → OsState → Option Shared => true) topRun0 = true := by k_qdec
noncomputable abbrev topQ : World → OsState → Option Shared := PySem.W.Fast.tw11753532992937814285
theorem topQ_eq : topRun0 = topQ := PySem.W.Fast.te11753532992937814285
theorem topIs : ∀ w : World, (fun os => (topQ w os).isSome) = fun _ => true := by intro w; kernel_rfl
theorem topStat : ∀ w : World, (fun os => (topQ w os).map (fun s => staticsOk (importedModules PySem.Challenge.pw_qh0018_01.main.body) (boot_heap w.params) s.heap)) = fun _ => some true := by intro w; kernel_rfl
theorem topNames : ∀ w : World, (fun os => (topQ w os).map (fun s => namesBound PySem.Challenge.pw_qh0018_01 s.heap)) = fun _ => some true := by intro w; kernel_rfl
theorem topKept : ∀ w : World, (fun os => (topQ w os).map (fun s => gensDone s && laidKept (boot_heap w.params) s.heap)) = fun _ => some true := by intro w; kernel_rfl
theorem topOpen : ∀ w : World, (fun os => (topQ w os).map (fun s => openSeen topView topLoose (importedModules PySem.Challenge.pw_qh0018_01.main.body) topSeen true s)) = fun _ => some (openGood topView topLoose) := by intro w; kernel_rfl
theorem topBoot : ∀ w : World, (((boot_heap w.params).isNs mainGlobals, (boot_heap w.params).objs.size), (boot_heap w.params).nsMap mainGlobals "__annotations__") = ((true, 11), some (.ref 6)) := by intro w; kernel_rfl

theorem topSplit {p q : Program} {loose : List Str} {Xt : Shared → Bool} {α : Type} {Yf : Shared → α} {Ya : World → α} {N m₀ : Nat} {ann : Option Value} {H : Params → Heap} {d : Drawn} {k : Nat} {mods : List Str}
    (em : mods = importedModules p.main.body)
    (opn : ∀ w : World, (fencedOpening treeTable p w N).map (fun s => (s.heap, s.gens, s.drawn, s.toks)) = some (H w.params, Array.mk [], d, k))
    (size : ∀ w : World, (((H w.params).isNs mainGlobals, (H w.params).objs.size), (H w.params).nsMap mainGlobals "__annotations__") = ((true, m₀), ann))
    (run : ∀ (w : World) (os : OsState), ∃ s, topRun treeTable p w m₀ ann N ⟨H w.params, Array.mk [], d, k, os⟩ (topStub p) = some s ∧
      (staticsOk mods (H w.params) s.heap && namesBound p s.heap && gensDone s && laidKept (H w.params) s.heap) = true ∧
      openSeen q loose mods Xt true s = openGood q loose ∧ Yf s = Ya w) : LeftO p q loose Xt Yf Ya N := fun w => by
  subst em
  obtain ⟨⟨hp, gs, d', k', os⟩, e1, e2⟩ := Option.map_eq_some_iff.mp (opn w)
  obtain ⟨rfl, rfl, rfl, rfl⟩ : hp = H w.params ∧ gs = Array.mk [] ∧ d' = d ∧ k' = k := by simpa using e2
  obtain ⟨s, es, l1, l5, l6⟩ := run w os
  obtain ⟨z1, z2⟩ := Prod.mk.inj (size w)
  obtain ⟨z0, z1⟩ := Prod.mk.inj z1
  have h : topFrom treeTable p w N ⟨H w.params, Array.mk [], d', k', os⟩ = some s := by
    unfold topFrom
    dsimp only
    rw [z0, z1, z2, es]
    show (match staticsOk (importedModules p.main.body) (H w.params) s.heap && namesBound p s.heap && gensDone s && laidKept (H w.params) s.heap with | true => some s | false => none) = _
    rw [l1]
  unfold openEnds
  rw [e1]
  show (topFrom treeTable p w N ⟨H w.params, Array.mk [], d', k', os⟩).map _ = _
  rw [h]
  show some (openSeen q loose (importedModules p.main.body) Xt true s, Yf s) = _
  rw [l5, l6]
theorem topOpening : opening PySem.Challenge.pw_qh0018_01 = plainProg PySem.Challenge.pw_qh0018_01.main.scope.names := by rfl
theorem topFence : ∀ s, fenceModules? PySem.Challenge.pw_qh0018_01 s = some s := fun _ => by rfl
theorem topRun0_is (w : World) (os : OsState) : topRun0 w os = topRun treeTable PySem.Challenge.pw_qh0018_01 w 11 (some (.ref 6)) 1180 ⟨boot_heap w.params, Array.mk [], boot_drawn, boot_toks, os⟩ (topStub PySem.Challenge.pw_qh0018_01) := by unfold topRun0; rfl
theorem topMany {run : World → OsState → Option Shared} {rq : World → OsState → Option Shared} (e : run = rq) {α β : Type} {a b c : World → Shared → Bool} {o : World → Shared → α} {y : World → Shared → β} {ov : World → α} {yv : World → β}
    (h0 : ∀ w : World, (fun os => (rq w os).isSome) = fun _ => true)
    (ha : ∀ w : World, (fun os => (rq w os).map (a w)) = fun _ => some true)
    (hb : ∀ w : World, (fun os => (rq w os).map (b w)) = fun _ => some true)
    (hc : ∀ w : World, (fun os => (rq w os).map (c w)) = fun _ => some true)
    (ho : ∀ w : World, (fun os => (rq w os).map (o w)) = fun _ => some (ov w))
    (hy : ∀ w : World, (fun os => (rq w os).map (y w)) = fun _ => some (yv w)) (w : World) (os : OsState) :
    ∃ s, run w os = some s ∧ a w s = true ∧ b w s = true ∧ c w s = true ∧ o w s = ov w ∧ y w s = yv w := by
  subst e
  obtain ⟨s, es⟩ := Option.isSome_iff_exists.mp (congrFun (h0 w) os)
  refine ⟨s, es, ?_, ?_, ?_, ?_, ?_⟩
  · have := congrFun (ha w) os; simp only [es] at this; exact Option.some.inj this
  · have := congrFun (hb w) os; simp only [es] at this; exact Option.some.inj this
  · have := congrFun (hc w) os; simp only [es] at this; exact Option.some.inj this
  · have := congrFun (ho w) os; simp only [es] at this; exact Option.some.inj this
  · have := congrFun (hy w) os; simp only [es] at this; exact Option.some.inj this
theorem topMods : importedModules PySem.Challenge.pw_qh0018_01.main.body = importedModules PySem.Challenge.pw_qh0018_01.main.body := rfl
theorem left_boot {α : Type} {Yf : Shared → α} {Ya : World → α}
    (h : ∀ w : World, (fun os => (topQ w os).map Yf) = fun _ => some (Ya w)) : LeftO PySem.Challenge.pw_qh0018_01 topView topLoose topSeen Yf Ya 1180 :=
  topSplit topMods (boot_open topOpening (by decide +kernel) topFence) topBoot fun w os => by
    obtain ⟨s, es, x1, x2, x3, x4, x5⟩ := topMany (a := fun w s => staticsOk (importedModules PySem.Challenge.pw_qh0018_01.main.body) (boot_heap w.params) s.heap) (b := fun _ s => namesBound PySem.Challenge.pw_qh0018_01 s.heap) (c := fun w s => gensDone s && laidKept (boot_heap w.params) s.heap)
      (o := fun _ s => openSeen topView topLoose (importedModules PySem.Challenge.pw_qh0018_01.main.body) topSeen true s) (y := fun _ => Yf) (ov := fun _ => openGood topView topLoose) (yv := Ya) topQ_eq topIs topStat topNames topKept topOpen h w os
    rw [topRun0_is] at es
    refine ⟨s, es, ?_, x4, x5⟩
    obtain ⟨x3, x6⟩ := Bool.and_eq_true_iff.mp x3
    exact Bool.and_eq_true_iff.mpr ⟨Bool.and_eq_true_iff.mpr ⟨Bool.and_eq_true_iff.mpr ⟨x1, x2⟩, x3⟩, x6⟩
section
local macro_rules
  | `(tactic| o_law) => `(tactic| refine Mine.topLaw fun said => ?_)
local macro_rules
  | `(tactic| o_head $H) => do
    let hl := Lean.mkIdent `hl
    let hw := Lean.mkIdent `hw
    let hc := Lean.mkIdent `hc
    `(tactic| (refine holds_open (q := Mine.topView) (loose := Mine.topLoose) (Xt := Mine.topSeen) (XP := XL Mine.topView []) (Yf := Hook.obs $H) (Ya := Hook.val $H) (YP := Hook.says $H) (N := 1180) ?$hl (Hook.of $H) (Hook.keeps $H) (fun s e => xl_of s (Bool.and_eq_true_iff.mp e).1) XL.keeps (by rfl) (by rfl) (by rfl) (fun s e => recFacts_of (Bool.and_eq_true_iff.mp e).2) (by rfl) (by first | assumption | decide +kernel) (by decide +kernel) ⟨rfl, rfl, rfl, rfl, rfl, by decide +kernel⟩ ?$hw ?$hc
               (case $hl:ident => (refine Mine.left_boot ?_; intro w; kernel_rfl))))
open_top hd for PySem.Challenge.rw_qh0018_01
end
end Mine
end

section
open PySem PySem.W PyProof.Rows
set_option maxRecDepth 100000
namespace Mine
set_option linter.unusedVariables false
set_option linter.unusedSimpArgs false
/-- a base64 sign's value -/
def b64v (c : Int) : Int := if 65 ≤ c ∧ c ≤ 90 then c - 65 else if 97 ≤ c ∧ c ≤ 122 then c - 71 else if 48 ≤ c ∧ c ≤ 57 then c + 4 else if c = 43 then 62 else if c = 47 then 63 else 64
section
variable {prog : Program} {w : World} {H0 : Heap}

theorem fn_b64v (W : W0 (hd.heap_1 w.params) H0) {c : Int} : Fn prog w H0 84 1 [tInt.at c] [] (tInt.at (b64v c)) := by
  refine fn_intro (ρ := [("c", tInt.at c)]) W rfl rfl ?_ rfl rfl rfl ?_ rfl rfl rfl
  · rintro s X vs kvs wd (_ | ⟨h1, _ | _⟩) (_ | _)
    exact ⟨[("c", _)], BindsTo.of_eq rfl, .cons ⟨rfl, h1⟩ .nil⟩
  · intro A L X0 X s₀ s hX x
    refine st_if x (ts_chain2 ev_int (ev_var rfl rfl rfl) ev_int op_le op_le rfl) (fun h s x => st_return x ((ev_bin (ev_var rfl rfl rfl) ev_int op_sub).cast ?_) hX fun v s' => retOk) fun h1 s x => st_nil ?_
    · simp only [Bool.and_eq_true, decide_eq_true_eq] at h; rw [b64v, if_pos h]
    refine st_if x (ts_chain2 ev_int (ev_var rfl rfl rfl) ev_int op_le op_le rfl) (fun h s x => st_return x ((ev_bin (ev_var rfl rfl rfl) ev_int op_sub).cast ?_) hX fun v s' => retOk) fun h2 s x => st_nil ?_
    · simp only [Bool.and_eq_true, decide_eq_true_eq, Bool.and_eq_false_iff, decide_eq_false_iff_not] at h h1; rw [b64v, if_neg (by omega), if_pos h]
    refine st_if x (ts_chain2 ev_int (ev_var rfl rfl rfl) ev_int op_le op_le rfl) (fun h s x => st_return x ((ev_bin (ev_var rfl rfl rfl) ev_int op_add).cast ?_) hX fun v s' => retOk) fun h3 s x => st_nil ?_
    · simp only [Bool.and_eq_true, decide_eq_true_eq, Bool.and_eq_false_iff, decide_eq_false_iff_not] at h h1 h2; rw [b64v, if_neg (by omega), if_neg (by omega), if_pos h]
    refine st_if x (ts_cmp (ev_var rfl rfl rfl) ev_int op_eq rfl) (fun h s x => st_return x (ev_int.cast ?_) hX fun v s' => retOk) fun h4 s x => st_nil ?_
    · simp only [Bool.and_eq_true, decide_eq_true_eq, Bool.and_eq_false_iff, decide_eq_false_iff_not] at h h1 h2 h3; subst h; rfl
    refine st_if x (ts_cmp (ev_var rfl rfl rfl) ev_int op_eq rfl) (fun h s x => st_return x (ev_int.cast ?_) hX fun v s' => retOk) fun h5 s x => st_nil ?_
    · simp only [Bool.and_eq_true, decide_eq_true_eq, Bool.and_eq_false_iff, decide_eq_false_iff_not] at h h1 h2 h3 h4; subst h; rfl
    refine st_return x (ev_int.cast ?_) hX fun v s' => retOk
    simp only [Bool.and_eq_true, decide_eq_true_eq, Bool.and_eq_false_iff, decide_eq_false_iff_not] at h1 h2 h3 h4 h5
    rw [b64v, if_neg (by omega), if_neg (by omega), if_neg (by omega), if_neg h4, if_neg h5]

/-- type(x) -/
theorem ev_type {g : Γ} {Y1 : XS} {K : Frag} (W : W0 K H0) {e : Expr} {b : Bd} {T : String} {p pos : Pos} (h : Ev prog w H0 g Y1 e b) (hT : ∀ (s : Shared) (v : Value), b.rel Y1 s.heap v → s.TypeIs v T) (hnb : (Value.type T == Value.type "builtin_function_or_method") = false)
    (hk : g.env.kindOf "type" = some .globalImplicit) (hn : nsIn K mainGlobals "type" = some none) (he : ∀ env, starEach [e] env = (false, eval e env) :: starEach [] env) (hp : ∀ env, (backTo pos (starEach [e] env)).any (·.1) = false) :
    Ev prog w H0 g g.X (.Call (.Name "type" p) [e] [] pos) (bVal (.type T)) := by
  refine ev_callT (T := "type") (ev_boot W hk hn rfl (by decide) rfl) (evs_cons h evs_nil he) ?_ he hp
  rintro s vs E c (_ | ⟨q, _ | _⟩)
  exact call_type_of (hT s _ q) hnb ⟨Keeps.refl s, rfl⟩
theorem op_is {g : Γ} {Y Y1 Y2 : XS} {a b : Value} (hp : plainIs a b = true) : OpOk prog w H0 g (compareOp .Is) Y1 (bVal a) Y2 (bVal b) Y (tBool.at (a == b)) := by
  rintro s v1 v2 E c rfl rfl
  exact wpAny_is_plain hp ⟨Keeps.refl s, rfl⟩
theorem ty_bytes {Y : XS} {x : List UInt8} : ∀ (s : Shared) (v : Value), (tBytes.at x).rel Y s.heap v → s.TypeIs v "bytes" := by
  rintro s v ⟨t, rfl⟩; exact typeIs_bytes _ _ _
theorem ty_bool {Y : XS} {x : Bool} : ∀ (s : Shared) (v : Value), (tBool.at x).rel Y s.heap v → s.TypeIs v "bool" := by
  rintro s v rfl; rfl

theorem fn_buffer (W : W0 (hd.heap_1 w.params) H0) {x : List UInt8} : Fn prog w H0 70 1 [tBytes.at x] [] (tBytes.at x) := by
  refine fn_intro (ρ := [("data", tBytes.at x)]) W rfl rfl ?_ rfl rfl rfl ?_ rfl rfl rfl
  · rintro s X vs kvs wd (_ | ⟨h1, _ | _⟩) (_ | _)
    exact ⟨[("data", _)], BindsTo.of_eq rfl, .cons ⟨rfl, h1⟩ .nil⟩
  · intro A L X0 X s₀ s hX x
    refine st_assign x (ev_type W (ev_var rfl rfl rfl) ty_bytes rfl rfl rfl (fun _ => rfl) (fun _ => rfl)) hTrue_st (.inl rfl) rfl fun s x => ?_
    refine st_if x (ts_cmp (ev_var rfl rfl rfl) (ev_boot W rfl rfl rfl (by decide) rfl) (op_is rfl) rfl) (fun h s x => st_return x (ev_var rfl rfl rfl) hX fun v s' => retOk) fun h1 s x => ?_
    exact absurd h1 (by decide)

theorem fn_ascii (W : W0 (hd.heap_1 w.params) H0) {x : List UInt8} : Fn prog w H0 63 1 [tBytes.at x] [] (tBytes.at x) := by
  refine fn_intro (ρ := [("data", tBytes.at x)]) W rfl rfl ?_ rfl rfl rfl ?_ rfl rfl rfl
  · rintro s X vs kvs wd (_ | ⟨h1, _ | _⟩) (_ | _)
    exact ⟨[("data", _)], BindsTo.of_eq rfl, .cons ⟨rfl, h1⟩ .nil⟩
  · intro A L X0 X s₀ s hX x
    refine st_assign x (ev_type W (ev_var rfl rfl rfl) ty_bytes rfl rfl rfl (fun _ => rfl) (fun _ => rfl)) hTrue_st (.inl rfl) rfl fun s x => ?_
    refine st_if x (ts_cmp (ev_var rfl rfl rfl) (ev_boot W rfl rfl rfl (by decide) rfl) (op_is rfl) rfl) (fun h s x => absurd h (by decide)) fun h1 s x => st_nil ?_
    refine st_if x (ts_cmp (ev_var rfl rfl rfl) (ev_boot W rfl rfl rfl (by decide) rfl) (op_is rfl) rfl) (fun h s x => st_return x (ev_var rfl rfl rfl) hX fun v s' => retOk) fun h1 s x => ?_
    exact absurd h1 (by decide)

theorem fn_truth (W : W0 (hd.heap_1 w.params) H0) {x : Bool} : Fn prog w H0 77 1 [tBool.at x] [] (tBool.at x) := by
  refine fn_intro (ρ := [("x", tBool.at x)]) W rfl rfl ?_ rfl rfl rfl ?_ rfl rfl rfl
  · rintro s X vs kvs wd (_ | ⟨h1, _ | _⟩) (_ | _)
    exact ⟨[("x", _)], BindsTo.of_eq rfl, .cons ⟨rfl, h1⟩ .nil⟩
  · intro A L X0 X s₀ s hX sx
    refine st_assign sx (ev_type W (ev_var rfl rfl rfl) ty_bool rfl rfl rfl (fun _ => rfl) (fun _ => rfl)) hTrue_st (.inl rfl) rfl fun s sx => ?_
    refine st_if (c := true) sx ?_ (fun h s sx => st_return sx ?_ hX fun v s' => retOk) (fun h => absurd h (by decide))
    · refine ts_or (d := true) (c := false) (ts_cmp (ev_var rfl rfl rfl) ev_none (op_isNone ?_) rfl) fun _ => ?_
      · rintro s v rfl; rfl
      · exact ts_or (d := true) (c := true) (ts_cmp (ev_var rfl rfl rfl) (ev_boot W rfl rfl rfl (by decide) rfl) (op_is rfl) rfl) (fun h => absurd h (by decide))
    · refine ev_ifexp (c := x) (ts_val (ev_var rfl rfl rfl) tr_bool fun _ _ => rfl) (fun h => ev_bool.cast (by rw [h])) (fun h => ev_bool.cast (by rw [h]))

/-- isinstance(x, C) of bytes -/
theorem ev_isiB {g : Γ} {Y1 : XS} {K : Frag} (W : W0 K H0) {e1 e2 : Expr} {x : List UInt8} {c : Value} {b : Bool} {p pos : Pos} (h : Ev prog w H0 g Y1 e1 (tBytes.at x)) (h2 : Ev prog w H0 g Y1 e2 (bVal c)) (hc : kitOne K (.type "bytes") c = some b)
    (hk : g.env.kindOf "isinstance" = some .globalImplicit) (hn : nsIn K mainGlobals "isinstance" = some none) (he : ∀ env, starEach [e1, e2] env = (false, eval e1 env) :: starEach [e2] env) (he2 : ∀ env, starEach [e2] env = (false, eval e2 env) :: starEach [] env)
    (hp : ∀ env, (backTo pos (starEach [e1, e2] env)).any (·.1) = false) :
    Ev prog w H0 g g.X (.Call (.Name "isinstance" p) [e1, e2] [] pos) (tBool.at b) := by
  refine ev_callB (id := "isinstance") (ev_boot W hk hn rfl (by decide) rfl) (evs_cons h (evs_cons h2 evs_nil he2) he) ?_ he hp
  rintro s vs E c (_ | ⟨⟨t, rfl⟩, _ | ⟨rfl, _ | _⟩⟩)
  exact kia_one kitx_bytes (fun a o e => c.wd.keep _ _ (W.kin _ _ e)) trivial hc (by intro h; cases h) fun tk => ⟨Keeps.tok _ _, rfl⟩
theorem ev_isiBT {g : Γ} {Y1 : XS} {K : Frag} (W : W0 K H0) {e1 e2 : Expr} {x : List UInt8} {tp : Addr} {dd : Option Addr} {its : List Value} {n : Nat} {sl : Array (Option Value)} {b : Bool} {p pos : Pos} (h : Ev prog w H0 g Y1 e1 (tBytes.at x)) (h2 : Ev prog w H0 g Y1 e2 (bVal (.ref tp)))
    (ht : K.lookup tp = some ⟨.type "tuple", dd, .seq its.toArray n, sl⟩) (hc : kitAny K (.type "bytes") its = some b)
    (hk : g.env.kindOf "isinstance" = some .globalImplicit) (hn : nsIn K mainGlobals "isinstance" = some none) (he : ∀ env, starEach [e1, e2] env = (false, eval e1 env) :: starEach [e2] env) (he2 : ∀ env, starEach [e2] env = (false, eval e2 env) :: starEach [] env)
    (hp : ∀ env, (backTo pos (starEach [e1, e2] env)).any (·.1) = false) :
    Ev prog w H0 g g.X (.Call (.Name "isinstance" p) [e1, e2] [] pos) (tBool.at b) := by
  refine ev_callB (id := "isinstance") (ev_boot W hk hn rfl (by decide) rfl) (evs_cons h (evs_cons h2 evs_nil he2) he) ?_ he hp
  rintro s vs E c (_ | ⟨⟨t, rfl⟩, _ | ⟨rfl, _ | _⟩⟩)
  exact kia_tup kitx_bytes (fun a o e => c.wd.keep _ _ (W.kin _ _ e)) trivial (c.wd.keep _ _ (W.kin _ _ ht)) hc (by intro h; cases h) fun tk => ⟨Keeps.tok _ _, rfl⟩

theorem fn_bfdB (W : W0 (hd.heap_1 w.params) H0) {x : List UInt8} : Fn prog w H0 43 1 [tBytes.at x] [] (tBytes.at x) := by
  refine fn_intro (ρ := [("s", tBytes.at x)]) W rfl rfl ?_ rfl rfl rfl ?_ rfl rfl rfl
  · rintro s X vs kvs wd (_ | ⟨h1, _ | _⟩) (_ | _)
    exact ⟨[("s", _)], BindsTo.of_eq rfl, .cons ⟨rfl, h1⟩ .nil⟩
  · intro A L X0 X s₀ s hX sx
    refine st_if (c := false) sx (ts_val (ev_isiB W (ev_var rfl rfl rfl) (ev_boot W rfl rfl rfl (by decide) rfl) ?_ rfl rfl (fun _ => rfl) (fun _ => rfl) (fun _ => rfl)) tr_bool fun _ _ => rfl) (fun h => absurd h (by decide)) fun _ s sx => st_nil ?_
    · kernel_rfl
    refine st_if (c := true) sx (ts_val (ev_isiBT W (its := [.type "bytes", .type "bytearray"]) (ev_var rfl rfl rfl) (ev_glob W rfl rfl rfl) rfl ?_ rfl rfl (fun _ => rfl) (fun _ => rfl) (fun _ => rfl)) tr_bool fun _ _ => rfl) (fun _ s sx => st_return sx (ev_var rfl rfl rfl) hX fun v s' => retOk) (fun h => absurd h (by decide))
    kernel_rfl
end
end Mine
end

section
open PySem PySem.W PyProof.Rows
set_option maxRecDepth 100000
namespace Mine
theorem nm_reduce {P : Params} : nsIn (hd.heap_1 P) mainGlobals "reduce" = some (some (.ref 30)) := by kernel_rfl
theorem nm_c3_merge {P : Params} : nsIn (hd.heap_1 P) mainGlobals "_c3_merge" = some (some (.ref 35)) := by kernel_rfl
theorem nm_bytes_from_decode_data {P : Params} : nsIn (hd.heap_1 P) mainGlobals "_bytes_from_decode_data" = some (some (.ref 43)) := by kernel_rfl
theorem nm_ascii_buffer {P : Params} : nsIn (hd.heap_1 P) mainGlobals "_ascii_buffer" = some (some (.ref 63)) := by kernel_rfl
theorem nm_buffer {P : Params} : nsIn (hd.heap_1 P) mainGlobals "_buffer" = some (some (.ref 70)) := by kernel_rfl
theorem nm_truth {P : Params} : nsIn (hd.heap_1 P) mainGlobals "_truth" = some (some (.ref 77)) := by kernel_rfl
theorem nm_b64_value {P : Params} : nsIn (hd.heap_1 P) mainGlobals "_b64_value" = some (some (.ref 84)) := by kernel_rfl
theorem nm_a2b_base64 {P : Params} : nsIn (hd.heap_1 P) mainGlobals "a2b_base64" = some (some (.ref 92)) := by kernel_rfl
theorem nm_b2a_base64 {P : Params} : nsIn (hd.heap_1 P) mainGlobals "b2a_base64" = some (some (.ref 100)) := by kernel_rfl
theorem nm_b64encode {P : Params} : nsIn (hd.heap_1 P) mainGlobals "b64encode" = some (some (.ref 108)) := by kernel_rfl
theorem nm_b64decode {P : Params} : nsIn (hd.heap_1 P) mainGlobals "b64decode" = some (some (.ref 116)) := by kernel_rfl
theorem nm_standard_b64encode {P : Params} : nsIn (hd.heap_1 P) mainGlobals "standard_b64encode" = some (some (.ref 123)) := by kernel_rfl
theorem nm_standard_b64decode {P : Params} : nsIn (hd.heap_1 P) mainGlobals "standard_b64decode" = some (some (.ref 130)) := by kernel_rfl
theorem nm_urlsafe_b64encode {P : Params} : nsIn (hd.heap_1 P) mainGlobals "urlsafe_b64encode" = some (some (.ref 137)) := by kernel_rfl
theorem nm_urlsafe_b64decode {P : Params} : nsIn (hd.heap_1 P) mainGlobals "urlsafe_b64decode" = some (some (.ref 144)) := by kernel_rfl
theorem nm_law_packets {P : Params} : nsIn (hd.heap_1 P) mainGlobals "_law_packets" = some (some (.ref 149)) := by kernel_rfl
theorem nm_law_lines {P : Params} : nsIn (hd.heap_1 P) mainGlobals "_law_lines" = some (some (.ref 154)) := by kernel_rfl
theorem nm_law_quad {P : Params} : nsIn (hd.heap_1 P) mainGlobals "_law_quad" = some (some (.ref 161)) := by kernel_rfl
theorem nm_law_write {P : Params} : nsIn (hd.heap_1 P) mainGlobals "_law_write" = some (some (.ref 168)) := by kernel_rfl
theorem nm_law_word {P : Params} : nsIn (hd.heap_1 P) mainGlobals "_law_word" = some (some (.ref 173)) := by kernel_rfl
theorem nm_law_read {P : Params} : nsIn (hd.heap_1 P) mainGlobals "_law_read" = some (some (.ref 180)) := by kernel_rfl
theorem nm_law_cut {P : Params} : nsIn (hd.heap_1 P) mainGlobals "_law_cut" = some (some (.ref 185)) := by kernel_rfl
theorem nm_law_join {P : Params} : nsIn (hd.heap_1 P) mainGlobals "_law_join" = some (some (.ref 192)) := by kernel_rfl
theorem nm_law_merge {P : Params} : nsIn (hd.heap_1 P) mainGlobals "_law_merge" = some (some (.ref 199)) := by kernel_rfl
theorem nm_law_told {P : Params} : nsIn (hd.heap_1 P) mainGlobals "_law_told" = some (some (.ref 204)) := by kernel_rfl
theorem nm_law_named {P : Params} : nsIn (hd.heap_1 P) mainGlobals "_law_named" = some (some (.ref 209)) := by kernel_rfl
theorem nm_initial_missing {P : Params} : nsIn (hd.heap_1 P) mainGlobals "_initial_missing" = some (some (.ref 22)) := by kernel_rfl
theorem nm_bytes_types {P : Params} : nsIn (hd.heap_1 P) mainGlobals "bytes_types" = some (some (.ref 36)) := by kernel_rfl
theorem nb_type {P : Params} : nsIn (hd.heap_1 P) mainGlobals "type" = some none := by kernel_rfl
theorem nb_bool {P : Params} : nsIn (hd.heap_1 P) mainGlobals "bool" = some none := by kernel_rfl
theorem nb_bytes {P : Params} : nsIn (hd.heap_1 P) mainGlobals "bytes" = some none := by kernel_rfl
theorem nb_str {P : Params} : nsIn (hd.heap_1 P) mainGlobals "str" = some none := by kernel_rfl
theorem nb_isinstance {P : Params} : nsIn (hd.heap_1 P) mainGlobals "isinstance" = some none := by kernel_rfl
theorem nb_len {P : Params} : nsIn (hd.heap_1 P) mainGlobals "len" = some none := by kernel_rfl
theorem nb_range {P : Params} : nsIn (hd.heap_1 P) mainGlobals "range" = some none := by kernel_rfl
theorem nb_sum {P : Params} : nsIn (hd.heap_1 P) mainGlobals "sum" = some none := by kernel_rfl
theorem nb_chr {P : Params} : nsIn (hd.heap_1 P) mainGlobals "chr" = some none := by kernel_rfl
theorem nb_iter {P : Params} : nsIn (hd.heap_1 P) mainGlobals "iter" = some none := by kernel_rfl
theorem nb_next {P : Params} : nsIn (hd.heap_1 P) mainGlobals "next" = some none := by kernel_rfl
theorem nb_min {P : Params} : nsIn (hd.heap_1 P) mainGlobals "min" = some none := by kernel_rfl
theorem nb_all {P : Params} : nsIn (hd.heap_1 P) mainGlobals "all" = some none := by kernel_rfl
theorem nb_RuntimeError {P : Params} : nsIn (hd.heap_1 P) mainGlobals "RuntimeError" = some none := by kernel_rfl
theorem nb_bytearray {P : Params} : nsIn (hd.heap_1 P) mainGlobals "bytearray" = some none := by kernel_rfl
theorem nb_StopIteration {P : Params} : nsIn (hd.heap_1 P) mainGlobals "StopIteration" = some none := by kernel_rfl
theorem nb_repr {P : Params} : nsIn (hd.heap_1 P) mainGlobals "repr" = some none := by kernel_rfl
end Mine
end

section
open PySem PySem.W PyProof.Rows
namespace Mine
set_option linter.unusedVariables false

theorem bitOr_low (a b : Int) (k : Nat) (ha : 0 ≤ a) (hb : 0 ≤ b) (hk : b < 2 ^ k) : Builtin.bitOr (a * 2 ^ k) b = a * 2 ^ k + b := by
  rw [bitOr_and]
  have h2 : (0 : Int) ≤ 2 ^ k := Int.le_of_lt (Int.pow_pos (by decide))
  have h0 : 0 ≤ a * 2 ^ k := Int.mul_nonneg ha h2
  rw [bitAnd_pp h0 hb]
  have e : (a * 2 ^ k).toNat = a.toNat * 2 ^ k := by
    have : a * 2 ^ k = ((a.toNat * 2 ^ k : Nat) : Int) := by
      push_cast
      rw [Int.toNat_of_nonneg ha]
    rw [this]; exact Int.toNat_natCast _
  have hbk : b.toNat < 2 ^ k := by
    have : ((b.toNat : Nat) : Int) < ((2 ^ k : Nat) : Int) := by rw [Int.toNat_of_nonneg hb]; push_cast; exact hk
    exact Int.ofNat_lt.mp this
  have z : (a * 2 ^ k).toNat &&& b.toNat = 0 := by
    rw [e]
    apply Nat.eq_of_testBit_eq
    intro i
    rw [Nat.testBit_and, Nat.zero_testBit, Nat.testBit_mul_two_pow]
    by_cases hi : k ≤ i
    · rw [Nat.testBit_lt_two_pow (Nat.lt_of_lt_of_le hbk (Nat.pow_le_pow_right (by decide) hi)), Bool.and_false]
    · simp [hi]
  rw [z]; simp

theorem fdiv_eq (a b : Int) (hb : 0 ≤ b) : a.fdiv b = a / b := Int.fdiv_eq_ediv_of_nonneg a hb
theorem fmod_eq (a b : Int) (hb : 0 ≤ b) : a.fmod b = a % b := Int.fmod_eq_emod_of_nonneg a hb

/-- one sign read -/
def dstep (s : Int × Int × List Int) (v : Int) : Int × Int × List Int :=
  if s.1 = 0 then (1, v, s.2.2) else if s.1 = 1 then (2, Builtin.bitAnd v 15, s.2.2 ++ [Builtin.bitOr (s.2.1 * 2 ^ (2 : Int).toNat) (v.fdiv (2 ^ (4 : Int).toNat))])
  else if s.1 = 2 then (3, Builtin.bitAnd v 3, s.2.2 ++ [Builtin.bitOr (s.2.1 * 2 ^ (4 : Int).toNat) (v.fdiv (2 ^ (2 : Int).toNat))]) else (0, 0, s.2.2 ++ [Builtin.bitOr (s.2.1 * 2 ^ (6 : Int).toNat) v])
def dst (vs : List Int) : Int × Int × List Int := vs.foldl dstep (0, 0, [])
structure DOk (s : Int × Int × List Int) : Prop where
  q : s.1 = 0 ∧ s.2.1 = 0 ∨ s.1 = 1 ∧ s.2.1 < 64 ∨ s.1 = 2 ∧ s.2.1 < 16 ∨ s.1 = 3 ∧ s.2.1 < 4
  l : 0 ≤ s.2.1
  o : ∀ x ∈ s.2.2, 0 ≤ x ∧ x < 256
theorem dstep_ok {s : Int × Int × List Int} {v : Int} (h : DOk s) (h0 : 0 ≤ v) (h1 : v < 64) : DOk (dstep s v) := by
  obtain ⟨q, l, o⟩ := h
  obtain ⟨p, left, out⟩ := s
  simp only at q l o
  rcases q with ⟨rfl, q⟩ | ⟨rfl, q⟩ | ⟨rfl, q⟩ | ⟨rfl, q⟩
  · exact ⟨.inr (.inl ⟨rfl, h1⟩), h0, o⟩
  · have e : Builtin.bitOr (left * 2 ^ (2 : Int).toNat) (v.fdiv (2 ^ (4 : Int).toNat)) = left * 4 + v / 16 := by
      rw [show v.fdiv (2 ^ (4 : Int).toNat) = v / 16 from fdiv_eq _ _ (by decide)]
      exact bitOr_low left (v / 16) 2 l (by omega) (by show v / 16 < 4; omega)
    refine ⟨.inr (.inr (.inl ⟨rfl, ?_⟩)), ?_, ?_⟩
    · show Builtin.bitAnd v 15 < 16; rw [bitAnd_m4]; omega
    · show 0 ≤ Builtin.bitAnd v 15; rw [bitAnd_m4]; omega
    · intro x hx
      rcases List.mem_append.mp hx with hx | hx
      · exact o x hx
      · rw [List.mem_singleton.mp hx, e]; omega
  · have e : Builtin.bitOr (left * 2 ^ (4 : Int).toNat) (v.fdiv (2 ^ (2 : Int).toNat)) = left * 16 + v / 4 := by
      rw [show v.fdiv (2 ^ (2 : Int).toNat) = v / 4 from fdiv_eq _ _ (by decide)]
      exact bitOr_low left (v / 4) 4 l (by omega) (by show v / 4 < 16; omega)
    refine ⟨.inr (.inr (.inr ⟨rfl, ?_⟩)), ?_, ?_⟩
    · show Builtin.bitAnd v 3 < 4; rw [bitAnd_m2]; omega
    · show 0 ≤ Builtin.bitAnd v 3; rw [bitAnd_m2]; omega
    · intro x hx
      rcases List.mem_append.mp hx with hx | hx
      · exact o x hx
      · rw [List.mem_singleton.mp hx, e]; omega
  · have e : Builtin.bitOr (left * 2 ^ (6 : Int).toNat) v = left * 64 + v := bitOr_low left v 6 l h0 (by show v < 64; omega)
    refine ⟨.inl ⟨rfl, rfl⟩, Int.le_refl 0, ?_⟩
    intro x hx
    rcases List.mem_append.mp hx with hx | hx
    · exact o x hx
    · rw [List.mem_singleton.mp hx, e]; omega
theorem dst_ok : ∀ (vs : List Int) (s : Int × Int × List Int), DOk s → (∀ v ∈ vs, 0 ≤ v ∧ v < 64) → DOk (vs.foldl dstep s)
  | [], s, h, _ => h
  | v :: r, s, h, hv => dst_ok r _ (dstep_ok h (hv v (by simp)).1 (hv v (by simp)).2) fun x hx => hv x (by simp [hx])
theorem dst_snoc (vs : List Int) (i : Nat) (v : Int) (h : vs[i]? = some v) : dst (vs.take (i + 1)) = dstep (dst (vs.take i)) v := by
  unfold dst
  rw [List.take_add_one, h, List.foldl_append]; rfl

/-- four signs' values of a packet -/
def qv (p : Nat × Nat × Nat) : List Int :=
  let n : Int := (p.1 : Int) * 65536 + (p.2.1 : Int) * 256 + (p.2.2 : Int)
  [n / 262144, n / 4096 % 64, n / 64 % 64, n % 64]
theorem dst_quad (p : Nat × Nat × Nat) (h1 : p.1 < 256) (h2 : p.2.1 < 256) (h3 : p.2.2 < 256) (out : List Int) :
    (qv p).foldl dstep (0, 0, out) = (0, 0, out ++ [(p.1 : Int), (p.2.1 : Int), (p.2.2 : Int)]) := by
  obtain ⟨a, b, c⟩ := p
  simp only at h1 h2 h3
  simp only [qv]
  have e1 : ((a : Int) * 65536 + (b : Int) * 256 + (c : Int)) / 262144 = (a : Int) / 4 := by omega
  have e2 : ((a : Int) * 65536 + (b : Int) * 256 + (c : Int)) / 4096 % 64 = (a : Int) % 4 * 16 + (b : Int) / 16 := by omega
  have e3 : ((a : Int) * 65536 + (b : Int) * 256 + (c : Int)) / 64 % 64 = (b : Int) % 16 * 4 + (c : Int) / 64 := by omega
  have e4 : ((a : Int) * 65536 + (b : Int) * 256 + (c : Int)) % 64 = (c : Int) % 64 := by omega
  rw [e1, e2, e3, e4]
  simp only [List.foldl_cons, List.foldl_nil, dstep]
  simp only [if_true, Int.reduceEq, if_false, List.append_assoc, List.cons_append, List.nil_append]
  have f1 : Builtin.bitOr ((a : Int) / 4 * 2 ^ (2 : Int).toNat) (((a : Int) % 4 * 16 + (b : Int) / 16).fdiv (2 ^ (4 : Int).toNat)) = (a : Int) := by
    rw [show ((a : Int) % 4 * 16 + (b : Int) / 16).fdiv (2 ^ (4 : Int).toNat) = ((a : Int) % 4 * 16 + (b : Int) / 16) / 16 from fdiv_eq _ _ (by decide)]
    refine (bitOr_low _ _ 2 (by omega) (by omega) (by show _ < (4 : Int); omega)).trans ?_
    show (a : Int) / 4 * 4 + _ = _
    omega
  have f2 : Builtin.bitOr (Builtin.bitAnd ((a : Int) % 4 * 16 + (b : Int) / 16) 15 * 2 ^ (4 : Int).toNat) (((b : Int) % 16 * 4 + (c : Int) / 64).fdiv (2 ^ (2 : Int).toNat)) = (b : Int) := by
    rw [bitAnd_m4, show ((b : Int) % 16 * 4 + (c : Int) / 64).fdiv (2 ^ (2 : Int).toNat) = ((b : Int) % 16 * 4 + (c : Int) / 64) / 4 from fdiv_eq _ _ (by decide)]
    refine (bitOr_low _ _ 4 (by omega) (by omega) (by show _ < (16 : Int); omega)).trans ?_
    show _ * 16 + _ = _
    omega
  have f3 : Builtin.bitOr (Builtin.bitAnd ((b : Int) % 16 * 4 + (c : Int) / 64) 3 * 2 ^ (6 : Int).toNat) ((c : Int) % 64) = (c : Int) := by
    rw [bitAnd_m2]
    refine (bitOr_low _ _ 6 (by omega) (by omega) (by show _ < (64 : Int); omega)).trans ?_
    show _ * 64 + _ = _
    omega
  rw [f1, f2, f3]
end Mine
end

section
open PySem PySem.W PyProof.Rows
set_option maxRecDepth 100000
namespace Mine
set_option linter.unusedVariables false
set_option linter.unusedSimpArgs false
def sv (x : List UInt8) : List Int := x.map fun c => b64v (c.toNat : Int)
theorem b64v_ge (c : Int) : 0 ≤ b64v c := by
  unfold b64v
  repeat' split
  all_goals omega
theorem dstep_len (s : Int × Int × List Int) (v : Int) : (dstep s v).2.2.length ≤ s.2.2.length + 1 := by
  unfold dstep
  repeat' split
  all_goals simp
theorem dst_lenA : ∀ (vs : List Int) (s : Int × Int × List Int), (vs.foldl dstep s).2.2.length ≤ s.2.2.length + vs.length
  | [], s => Nat.le_refl _
  | v :: r, s => by
    have h1 := dst_lenA r (dstep s v)
    have h2 := dstep_len s v
    simp only [List.foldl_cons, List.length_cons]
    omega
theorem dst_len (vs : List Int) (i : Nat) : (dst (vs.take i)).2.2.length ≤ i := by
  have := dst_lenA (vs.take i) (0, 0, [])
  simp only [List.length_nil, List.length_take] at this
  unfold dst
  omega
section
variable {prog : Program} {w : World} {H0 : Heap}

theorem fn_a2b (W : W0 (hd.heap_1 w.params) H0) {x : List UInt8} (hv : ∀ c ∈ x, b64v (c.toNat : Int) < 64) (hz : x.length ≤ 1000000) (hq : (dst (sv x)).1 = 0) :
    Fn prog w H0 92 2 [tBytes.at x] [("strict_mode", tBool.at false)] (tBytes.at ((dst (sv x)).2.2.map fun n => n.toNat.toUInt8)) := by
  refine fn_intro (ρ := [("data", tBytes.at x), ("strict_mode", tBool.at false)]) W rfl rfl ?_ rfl rfl rfl ?_ rfl rfl rfl
  · rintro s X vs kvs wd (_ | ⟨h1, _ | _⟩) (_ | @⟨⟨kn, kv⟩, _, _, _, ⟨h2, h3⟩, _ | _⟩)
    obtain rfl : kn = "strict_mode" := h2
    exact ⟨[("data", _), ("strict_mode", _)], BindsTo.of_eq rfl, .cons ⟨rfl, h1⟩ (.cons ⟨rfl, h3⟩ .nil)⟩
  · intro A L X0 X s₀ s hX sx
    refine st_assign sx (ev_call (ev_glob W rfl nm_ascii_buffer rfl) (evs_cons (ev_var rfl rfl rfl) evs_nil fun _ => rfl) (fn_ascii W) (Nat.le_refl _) fun _ => rfl) hTrue_st (.inl rfl) rfl fun s sx => ?_
    refine st_assign sx (ev_call (ev_glob W rfl nm_truth rfl) (evs_cons (ev_var rfl rfl rfl) evs_nil fun _ => rfl) (fn_truth W) (Nat.le_refl _) fun _ => rfl) hTrue_st (.inl rfl) rfl fun s sx => ?_
    refine st_newlist tInt sx (.inl rfl) fun D s fD0 fD sx nF => ?_
    have offF : ∀ {ys : List Int} {X' : XS}, (∀ a, Fa _ a → X' a) → (hList X' tInt D ys).StOff (Fa _) := fun h => hList_off nF h
    have faX : ∀ a, Fa _ a → (xI X D) a := fun a fa => sx.cx.fr.fa_x fa
    refine st_assign sx ev_int (offF faX) (.inl rfl) rfl fun s sx => ?_
    refine st_assign sx ev_int (offF faX) (.inl rfl) rfl fun s sx => ?_
    refine st_assign sx ev_int (offF faX) (.inl rfl) rfl fun s sx => ?_
    refine st_assign sx ev_int (offF faX) (.inl rfl) rfl fun s sx => ?_
    refine st_for sx (ev_var rfl rfl rfl) iter_bytes
      (fun i => [("i", tInt.at (i : Int)), ("pads", tInt.at 0), ("leftchar", tInt.at (dst ((sv x).take i)).2.1), ("quad_pos", tInt.at (dst ((sv x).take i)).1), ("out", bVal (.ref D)), ("strict_mode", tBool.at false)])
      (fun I i => hList (xI (xI X D) I) tInt D (dst ((sv x).take i)).2.2) (fun a => a = D) ?_ ?_ ?_ ?_ ?_ ?_ (.inl rfl) ?_ ?_ (fun _ => rfl) rfl
    · exact SubM.get ⟨rfl, rfl, rfl, rfl, rfl, rfl, trivial⟩
    · intro I h hI om
      exact hList_widen om fun b o n e q => q.elim n fun q => by rw [q, hI] at e; cases e
    · exact fun I i => offF fun a fa => .inl (faX a fa)
    · exact fun I i => hList_it (.inr rfl)
    · rintro a rfl; exact .inr rfl
    · rintro a rfl; exact .inr (fD.resolve_right id)
    · intro i bi I s₁ s' hbi sx
      rw [List.getElem?_map] at hbi
      obtain ⟨c, hc, rfl⟩ := Option.map_eq_some_iff.mp hbi
      have hcv := hv c (List.mem_of_getElem? hc)
      have hvi : (sv x)[i]? = some (b64v (c.toNat : Int)) := by unfold sv; rw [List.getElem?_map, hc]; rfl
      have hst := dst_ok ((sv x).take i) (0, 0, []) ⟨.inl ⟨rfl, rfl⟩, Int.le_refl 0, by simp⟩ fun v hv' => by
        obtain ⟨c', hc', rfl⟩ := List.mem_map.mp (List.mem_of_mem_take hv')
        exact ⟨b64v_ge _, hv c' hc'⟩
      have hlen : (dst ((sv x).take i)).2.2.length ≤ i := dst_len _ _
      have hi : i < x.length := by
        have := (List.getElem?_eq_some_iff.mp hc).1; exact this
      rw [dst_snoc (sv x) i _ hvi]
      change DOk (dst ((sv x).take i)) at hst
      generalize hS : dst ((sv x).take i) = S at sx hst hlen ⊢
      obtain ⟨q, l, o⟩ := S
      dsimp only at sx
      have h61 : ((c.toNat : Nat) : Int) ≠ 61 := fun e => by rw [e] at hcv; exact absurd hcv (by decide)
      refine st_if sx (ts_cmp (ev_var rfl rfl rfl) ev_int op_eq rfl) (fun h => absurd (of_decide_eq_true h) h61) fun _ s sx => st_nil ?_
      refine st_assign sx (ev_call (ev_glob W rfl nm_b64_value rfl) (evs_cons (ev_var rfl rfl rfl) evs_nil fun _ => rfl) (fn_b64v W) (Nat.le_refl _) fun _ => rfl) (offF fun a fa => .inl (faX a fa)) (.inl rfl) rfl fun s sx => ?_
      generalize hV : b64v (c.toNat : Int) = v at sx hcv ⊢
      have hv0 : 0 ≤ v := hV ▸ b64v_ge _
      refine st_if sx (ts_cmp (ev_var rfl rfl rfl) ev_int op_ge rfl) (fun h => absurd (of_decide_eq_true h) (by omega)) fun _ s sx => st_nil ?_
      refine st_if sx (ts_and (d := false) (ts_val (ev_var rfl rfl rfl) tr_int fun _ _ => rfl) fun h => absurd h (by decide)) (fun h => absurd h (by decide)) fun _ s sx => st_nil ?_
      refine st_assign sx ev_int (offF fun a fa => .inl (faX a fa)) (.inl rfl) rfl fun s sx => ?_
      have F1 : ∀ {ys : List Int}, (hList (xI (xI X D) I) tInt D ys).StOff (Fa _) := offF fun a fa => .inl (faX a fa)
      refine st_join sx [("pads", tInt.at 0), ("leftchar", tInt.at (dstep (q, l, o) v).2.1), ("quad_pos", tInt.at (dstep (q, l, o) v).1), ("out", bVal (.ref D)), ("strict_mode", tBool.at false), ("i", tInt.at (i : Int))]
        (hList (xI (xI X D) I) tInt D (dstep (q, l, o) v).2.2) ?_ fun s sx => ?_
      · have hl := hst.l
        simp only at hl hlen
        rcases hst.q with ⟨rfl, hq⟩ | ⟨rfl, hq⟩ | ⟨rfl, hq⟩ | ⟨rfl, hq⟩
        · refine st_if sx (ts_cmp (ev_var rfl rfl rfl) ev_int op_eq rfl) (fun h s sx => ?_) (fun h => absurd h (by decide))
          refine st_assign sx ev_int F1 (.inl rfl) rfl fun s sx => ?_
          refine st_assign sx (ev_var rfl rfl rfl) F1 (.inl rfl) rfl fun s sx => st_nil (st_nil ⟨rfl, ?_⟩)
          exact sx.sub ⟨rfl, rfl, rfl, rfl, rfl, rfl, trivial⟩
        · refine st_if sx (ts_cmp (ev_var rfl rfl rfl) ev_int op_eq rfl) (fun h => absurd h (by decide)) (fun h s sx => ?_)
          refine st_if sx (ts_cmp (ev_var rfl rfl rfl) ev_int op_eq rfl) (fun h s sx => ?_) (fun h => absurd h (by decide))
          simp only at hq
          refine st_assign sx ev_int F1 (.inl rfl) rfl fun s sx => ?_
          refine st_append sx rfl rfl rfl (ev_bin (ev_bin (ev_var rfl rfl rfl) ev_int (op_shl (by decide) (by decide) (by omega))) (ev_bin (ev_var rfl rfl rfl) ev_int (op_shr (by decide))) op_or) (.inl (.inr rfl)) nF (.inl (.inr rfl)) (by omega) (fun _ => rfl) rfl rfl rfl fun s sx => ?_
          refine st_assign sx (ev_bin (ev_var rfl rfl rfl) ev_int op_and) F1 (.inl rfl) rfl fun s sx => st_nil (st_nil (st_nil ⟨rfl, ?_⟩))
          exact sx.sub ⟨rfl, rfl, rfl, rfl, rfl, rfl, trivial⟩
        · refine st_if sx (ts_cmp (ev_var rfl rfl rfl) ev_int op_eq rfl) (fun h => absurd h (by decide)) (fun h s sx => ?_)
          refine st_if sx (ts_cmp (ev_var rfl rfl rfl) ev_int op_eq rfl) (fun h => absurd h (by decide)) (fun h s sx => ?_)
          refine st_if sx (ts_cmp (ev_var rfl rfl rfl) ev_int op_eq rfl) (fun h s sx => ?_) (fun h => absurd h (by decide))
          simp only at hq
          refine st_assign sx ev_int F1 (.inl rfl) rfl fun s sx => ?_
          refine st_append sx rfl rfl rfl (ev_bin (ev_bin (ev_var rfl rfl rfl) ev_int (op_shl (by decide) (by decide) (by omega))) (ev_bin (ev_var rfl rfl rfl) ev_int (op_shr (by decide))) op_or) (.inl (.inr rfl)) nF (.inl (.inr rfl)) (by omega) (fun _ => rfl) rfl rfl rfl fun s sx => ?_
          refine st_assign sx (ev_bin (ev_var rfl rfl rfl) ev_int op_and) F1 (.inl rfl) rfl fun s sx => st_nil (st_nil (st_nil (st_nil ⟨rfl, ?_⟩)))
          exact sx.sub ⟨rfl, rfl, rfl, rfl, rfl, rfl, trivial⟩
        · refine st_if sx (ts_cmp (ev_var rfl rfl rfl) ev_int op_eq rfl) (fun h => absurd h (by decide)) (fun h s sx => ?_)
          refine st_if sx (ts_cmp (ev_var rfl rfl rfl) ev_int op_eq rfl) (fun h => absurd h (by decide)) (fun h s sx => ?_)
          refine st_if sx (ts_cmp (ev_var rfl rfl rfl) ev_int op_eq rfl) (fun h => absurd h (by decide)) (fun h s sx => ?_)
          simp only at hq
          refine st_assign sx ev_int F1 (.inl rfl) rfl fun s sx => ?_
          refine st_append sx rfl rfl rfl (ev_bin (ev_bin (ev_var rfl rfl rfl) ev_int (op_shl (by decide) (by decide) (by omega))) (ev_var rfl rfl rfl) op_or) (.inl (.inr rfl)) nF (.inl (.inr rfl)) (by omega) (fun _ => rfl) rfl rfl rfl fun s sx => ?_
          refine st_assign sx ev_int F1 (.inl rfl) rfl fun s sx => st_nil (st_nil (st_nil (st_nil ⟨rfl, ?_⟩)))
          exact sx.sub ⟨rfl, rfl, rfl, rfl, rfl, rfl, trivial⟩
      · refine st_assign sx (ev_bin (ev_var rfl rfl rfl) ev_int op_add) F1 (.inl rfl) rfl fun s sx => st_nil ⟨.inl rfl, ?_⟩
        exact sx.sub ⟨rfl, rfl, rfl, rfl, rfl, rfl, trivial⟩
    · intro I s sx
      have hL : (x.map fun c => tInt.at (c.toNat : Int)).length = x.length := by simp
      have hT : (sv x).take x.length = sv x := List.take_of_length_le (by simp [sv])
      rw [hL, hT] at sx
      refine st_if sx (ts_cmp (ev_var rfl rfl rfl) ev_int op_eq rfl) (fun h => absurd (of_decide_eq_true h) (by omega)) fun _ s sx => st_nil ?_
      refine st_if sx (ts_and (d := false) (ts_cmp (ev_var rfl rfl rfl) ev_int op_ne rfl) fun h => absurd (of_decide_eq_true h) (by omega)) (fun h => by rw [Bool.and_false] at h; cases h) fun _ s sx => st_nil ?_
      have hst := dst_ok (sv x) (0, 0, []) ⟨.inl ⟨rfl, rfl⟩, Int.le_refl 0, by simp⟩ fun v hv' => by
        obtain ⟨c', hc', rfl⟩ := List.mem_map.mp hv'
        exact ⟨b64v_ge _, hv c' hc'⟩
      have hlen := dst_len (sv x) x.length
      rw [hT] at hlen
      refine st_return sx (ev_callT (ev_boot W rfl nb_bytes rfl (by decide) rfl) (evs_cons (ev_own rfl rfl rfl rfl) evs_nil fun _ => rfl) (fun s vs E c h => cb_bytes c hst.o (by have : (dst (sv x)).2.2.length ≤ x.length := hlen; unfold dst at this; omega) h) (fun _ => rfl) (fun _ => rfl)) (fun a q => .inl (hX a q)) fun v s' => retOk
end
end Mine
end

section
open PySem PySem.W PyProof.Rows
namespace Mine
set_option linter.unusedVariables false
def b64tab : List UInt8 := [65, 66, 67, 68, 69, 70, 71, 72, 73, 74, 75, 76, 77, 78, 79, 80, 81, 82, 83, 84, 85, 86, 87, 88, 89, 90, 97, 98, 99, 100, 101, 102, 103, 104, 105, 106, 107, 108, 109, 110, 111, 112, 113, 114, 115, 116, 117, 118, 119, 120, 121, 122, 48, 49, 50, 51, 52, 53, 54, 55, 56, 57, 43, 47]
def tabv (i : Int) : Int := ((b64tab.getD i.toNat 0).toNat : Int)
theorem tabv_in (i : Int) : 0 ≤ tabv i ∧ tabv i < 256 := by
  unfold tabv
  have := (b64tab.getD i.toNat 0).toNat_lt
  omega
def eN (lb : Int) : Nat := if lb = 4 then 2 else 1
def wl (lb lc : Int) (j : Nat) : List Int := (List.range j).map fun (k : Nat) => tabv (Builtin.bitAnd (lc.fdiv (2 ^ (lb + 8 - 6 * (k : Int) - 6).toNat)) 63)
theorem wl_snoc (lb lc : Int) (j : Nat) : wl lb lc (j + 1) = wl lb lc j ++ [tabv (Builtin.bitAnd (lc.fdiv (2 ^ (lb + 8 - 6 * (j : Int) - 6).toNat)) 63)] := by
  unfold wl; rw [List.range_succ, List.map_append]; rfl
def elc (lc b : Int) : Int := Builtin.bitAnd (Builtin.bitOr (lc * 2 ^ (8 : Int).toNat) b) 65535
/-- one octet written -/
def estep (s : Int × Int × List Int) (b : Int) : Int × Int × List Int := (s.1 + 8 - 6 * (eN s.1 : Int), elc s.2.1 b, s.2.2 ++ wl s.1 (elc s.2.1 b) (eN s.1))
def est (bs : List Int) : Int × Int × List Int := bs.foldl estep (0, 0, [])
structure EOk (s : Int × Int × List Int) : Prop where
  q : s.1 = 0 ∨ s.1 = 2 ∨ s.1 = 4
  l : 0 ≤ s.2.1 ∧ s.2.1 < 65536
  o : ∀ x ∈ s.2.2, 0 ≤ x ∧ x < 256
theorem elc_eq {lc b : Int} (hl : 0 ≤ lc) (h0 : 0 ≤ b) (h1 : b < 256) : elc lc b = lc % 256 * 256 + b := by
  unfold elc
  rw [bitAnd_m16]
  rw [show Builtin.bitOr (lc * 2 ^ (8 : Int).toNat) b = lc * 256 + b from bitOr_low lc b 8 hl h0 (by show b < 256; omega)]
  omega
theorem estep_ok {s : Int × Int × List Int} {b : Int} (h : EOk s) (h0 : 0 ≤ b) (h1 : b < 256) : EOk (estep s b) := by
  obtain ⟨q, l, o⟩ := h
  obtain ⟨lb, lc, out⟩ := s
  simp only at q l o
  refine ⟨?_, ?_, ?_⟩
  · show lb + 8 - 6 * (eN lb : Int) = 0 ∨ lb + 8 - 6 * (eN lb : Int) = 2 ∨ lb + 8 - 6 * (eN lb : Int) = 4
    rcases q with rfl | rfl | rfl
    · exact .inr (.inl rfl)
    · exact .inr (.inr rfl)
    · exact .inl rfl
  · show 0 ≤ elc lc b ∧ elc lc b < 65536
    rw [elc_eq l.1 h0 h1]; omega
  · intro x hx
    rcases List.mem_append.mp hx with hx | hx
    · exact o x hx
    · obtain ⟨k, _, rfl⟩ := List.mem_map.mp hx
      exact tabv_in _
theorem est_ok : ∀ (vs : List Int) (s : Int × Int × List Int), EOk s → (∀ v ∈ vs, 0 ≤ v ∧ v < 256) → EOk (vs.foldl estep s)
  | [], s, h, _ => h
  | v :: r, s, h, hv => est_ok r _ (estep_ok h (hv v (by simp)).1 (hv v (by simp)).2) fun x hx => hv x (by simp [hx])
theorem est_snoc (vs : List Int) (i : Nat) (v : Int) (h : vs[i]? = some v) : est (vs.take (i + 1)) = estep (est (vs.take i)) v := by
  unfold est
  rw [List.take_add_one, h, List.foldl_append]; rfl
theorem estep_len (s : Int × Int × List Int) (v : Int) : (estep s v).2.2.length ≤ s.2.2.length + 2 := by
  show (s.2.2 ++ wl s.1 (elc s.2.1 v) (eN s.1)).length ≤ _
  unfold wl eN
  rw [List.length_append, List.length_map, List.length_range]
  split <;> omega
theorem est_lenA : ∀ (vs : List Int) (s : Int × Int × List Int), (vs.foldl estep s).2.2.length ≤ s.2.2.length + 2 * vs.length
  | [], s => Nat.le_refl _
  | v :: r, s => by
    have h1 := est_lenA r (estep s v)
    have h2 := estep_len s v
    simp only [List.foldl_cons, List.length_cons]
    omega
theorem est_len (vs : List Int) (i : Nat) : (est (vs.take i)).2.2.length ≤ 2 * i := by
  have := est_lenA (vs.take i) (0, 0, [])
  simp only [List.length_nil, List.length_take] at this
  unfold est
  omega
theorem est_quad (p : Nat × Nat × Nat) (h1 : p.1 < 256) (h2 : p.2.1 < 256) (h3 : p.2.2 < 256) (lc : Int) (hl : 0 ≤ lc ∧ lc < 65536) (out : List Int) :
    ∃ lc', (0 ≤ lc' ∧ lc' < 65536) ∧ [(p.1 : Int), (p.2.1 : Int), (p.2.2 : Int)].foldl estep (0, lc, out) = (0, lc', out ++ (qv p).map tabv) := by
  obtain ⟨a, b, c⟩ := p
  simp only at h1 h2 h3
  have e1 : elc lc (a : Int) = lc % 256 * 256 + a := elc_eq hl.1 (by omega) (by omega)
  have e2 : elc (lc % 256 * 256 + a) (b : Int) = (a : Int) * 256 + b := by rw [elc_eq (by omega) (by omega) (by omega)]; omega
  have e3 : elc ((a : Int) * 256 + b) (c : Int) = (b : Int) * 256 + c := by rw [elc_eq (by omega) (by omega) (by omega)]; omega
  refine ⟨(b : Int) * 256 + c, by omega, ?_⟩
  have s1 : estep (0, lc, out) (a : Int) = (2, lc % 256 * 256 + a, out ++ [tabv ((a : Int) / 4)]) := by
    show (_, elc lc (a : Int), out ++ wl 0 (elc lc (a : Int)) 1) = _
    rw [e1]
    have : wl 0 (lc % 256 * 256 + (a : Int)) 1 = [tabv ((a : Int) / 4)] := by
      show [tabv (Builtin.bitAnd ((lc % 256 * 256 + (a : Int)).fdiv (2 ^ (0 + 8 - 6 * ((0 : Nat) : Int) - 6).toNat)) 63)] = _
      rw [show (lc % 256 * 256 + (a : Int)).fdiv (2 ^ (0 + 8 - 6 * ((0 : Nat) : Int) - 6).toNat) = (lc % 256 * 256 + (a : Int)) / 4 from fdiv_eq _ _ (by decide), bitAnd_m6]
      congr 2; omega
    rw [this]; rfl
  have s2 : ∀ o, estep (2, lc % 256 * 256 + a, o) (b : Int) = (4, (a : Int) * 256 + b, o ++ [tabv ((a : Int) % 4 * 16 + (b : Int) / 16)]) := by
    intro o
    show (_, elc (lc % 256 * 256 + a) (b : Int), o ++ wl 2 (elc (lc % 256 * 256 + a) (b : Int)) 1) = _
    rw [e2]
    have : wl 2 ((a : Int) * 256 + b) 1 = [tabv ((a : Int) % 4 * 16 + (b : Int) / 16)] := by
      show [tabv (Builtin.bitAnd (((a : Int) * 256 + b).fdiv (2 ^ (2 + 8 - 6 * ((0 : Nat) : Int) - 6).toNat)) 63)] = _
      rw [show ((a : Int) * 256 + b).fdiv (2 ^ (2 + 8 - 6 * ((0 : Nat) : Int) - 6).toNat) = ((a : Int) * 256 + b) / 16 from fdiv_eq _ _ (by decide), bitAnd_m6]
      congr 2; omega
    rw [this]; rfl
  have s3 : ∀ o, estep (4, (a : Int) * 256 + b, o) (c : Int) = (0, (b : Int) * 256 + c, o ++ [tabv ((b : Int) % 16 * 4 + (c : Int) / 64), tabv ((c : Int) % 64)]) := by
    intro o
    show (_, elc ((a : Int) * 256 + b) (c : Int), o ++ wl 4 (elc ((a : Int) * 256 + b) (c : Int)) 2) = _
    rw [e3]
    have : wl 4 ((b : Int) * 256 + c) 2 = [tabv ((b : Int) % 16 * 4 + (c : Int) / 64), tabv ((c : Int) % 64)] := by
      show [tabv (Builtin.bitAnd (((b : Int) * 256 + c).fdiv (2 ^ (4 + 8 - 6 * ((0 : Nat) : Int) - 6).toNat)) 63), tabv (Builtin.bitAnd (((b : Int) * 256 + c).fdiv (2 ^ (4 + 8 - 6 * ((1 : Nat) : Int) - 6).toNat)) 63)] = _
      rw [show ((b : Int) * 256 + c).fdiv (2 ^ (4 + 8 - 6 * ((0 : Nat) : Int) - 6).toNat) = ((b : Int) * 256 + c) / 64 from fdiv_eq _ _ (by decide),
        show ((b : Int) * 256 + c).fdiv (2 ^ (4 + 8 - 6 * ((1 : Nat) : Int) - 6).toNat) = ((b : Int) * 256 + c) / 1 from fdiv_eq _ _ (by decide), bitAnd_m6, bitAnd_m6]
      rw [Int.ediv_one, show ((b : Int) * 256 + c) / 64 % 64 = (b : Int) % 16 * 4 + (c : Int) / 64 from by omega, show ((b : Int) * 256 + c) % 64 = (c : Int) % 64 from by omega]
    rw [this]; rfl
  simp only [List.foldl_cons, List.foldl_nil]
  rw [s1, s2, s3]
  have q1 : ((a : Int) * 65536 + (b : Int) * 256 + (c : Int)) / 262144 = (a : Int) / 4 := by omega
  have q2 : ((a : Int) * 65536 + (b : Int) * 256 + (c : Int)) / 4096 % 64 = (a : Int) % 4 * 16 + (b : Int) / 16 := by omega
  have q3 : ((a : Int) * 65536 + (b : Int) * 256 + (c : Int)) / 64 % 64 = (b : Int) % 16 * 4 + (c : Int) / 64 := by omega
  have q4 : ((a : Int) * 65536 + (b : Int) * 256 + (c : Int)) % 64 = (c : Int) % 64 := by omega
  simp only [qv, q1, q2, q3, q4, List.map_cons, List.map_nil, List.append_assoc, List.cons_append, List.nil_append]
end Mine
end

section
open PySem PySem.W PyProof.Rows
namespace Mine
set_option linter.unusedVariables false
section
variable {prog : Program} {w : World} {H0 : Heap} {Z X0 X : XS} {s₀ s : Shared} {A : Around} {env : Env} {ρ : List (Str × Bd)} {Ω : Hp} {m : Nat} {pos p : Pos} {e : Expr} {b r : Bd} {E : Value → Shared → Prop} {Q : Flow → Shared → Prop} {rest : List Stmt}

/-- a while by the number of its turns -/
theorem st_while {test : Expr} {body orelse : List Stmt} (N : Nat) (sx : Sx H0 Z s₀ ⟨A, X, env, ρ, Ω, m⟩ s) (ρs : Nat → List (Str × Bd)) (Ωs : Nat → Hp)
    (h0 : SubM ρ (ρs 0)) (hΩ0 : ∀ h, Ω.p h → (Ωs 0).p h) (ht : ∀ j, j < N → Ts prog w H0 ⟨A, X, env, ρs j, Ωs j, m⟩ test true) (hN : Ts prog w H0 ⟨A, X, env, ρs N, Ωs N, m⟩ test false)
    (hb : ∀ j, j < N → ∀ s', Sx H0 Z s₀ ⟨A, X, env, ρs j, Ωs j, m⟩ s' → wpAny (model prog w) A (execs body env) (fun fl s'' => (fl = .next ∨ fl = .cont) ∧ Sx H0 Z s₀ ⟨A, X, env, ρs (j + 1), Ωs (j + 1), m⟩ s'') (fun _ _ => False) s')
    (hend : ∀ s', Sx H0 Z s₀ ⟨A, X, env, ρs N, Ωs N, m⟩ s' → wpAny (model prog w) A (execs rest env) Q E s') (hor : orelse = []) :
    wpAny (model prog w) A (execs (.While test body orelse pos :: rest) env) Q E s := by
  subst hor
  refine wpAny_execs_cons (wpAny_While ?_)
  refine codeAny_whileLoop (fun k s' => ∃ j, j ≤ N ∧ k = N - j ∧ Sx H0 Z s₀ ⟨A, X, env, ρs j, Ωs j, m⟩ s') ?_ N ⟨0, Nat.zero_le _, rfl, (sx.sub h0).om hΩ0⟩
  rintro k s' ⟨j, hj, rfl, sx⟩
  by_cases hlt : j < N
  · refine (ht j hlt).use sx.cx fun s2 k2 c2 => ?_
    simp only [if_true]
    refine wpAny_mono (hb j hlt s2 (sx.keep k2)) (fun fl s3 q => ?_) fun _ _ q => q.elim
    obtain ⟨hf, sx3⟩ := q
    have fin : ∃ m', m' < N - j ∧ ∃ j', j' ≤ N ∧ m' = N - j' ∧ Sx H0 Z s₀ ⟨A, X, env, ρs j', Ωs j', m⟩ s3 := ⟨N - (j + 1), by omega, j + 1, hlt, rfl, sx3⟩
    rcases hf with rfl | rfl
    · exact fin
    · exact fin
  · obtain rfl : j = N := by omega
    refine hN.use sx.cx fun s2 k2 c2 => ?_
    simp only [Bool.false_eq_true, if_false]
    exact wpAny_execs_nil (hend s2 (sx.keep k2))

/-- two names at once are not met; a method of a plain value -/
theorem ev_meth {g : Γ} {Y1 Y2 : XS} {o e : Expr} {es : List Expr} {b1 r : Bd} {bs : List Bd} {name : Str} {apos pos : Pos} {T id : String}
    (ho : Ev prog w H0 g Y1 o b1) (hT : ∀ (s : Shared) (v : Value), b1.rel Y1 s.heap v → s.TypeIs v T ∧ ∀ a, v ≠ .ref a) (pa : PlainAttrs T) (slot : Slot T name id) (hty : typeOf (.builtin id) = pure (.type "method_descriptor"))
    (hs : Evs prog w H0 g Y2 pos (e :: es) bs)
    (hc : ∀ s v vs E, Cx H0 g s → b1.rel Y1 s.heap v → All2 (fun v (b : Bd) => b.rel Y2 s.heap v) vs bs → wpAny (model prog w) g.A (call (.builtin id) (v :: vs)) (fun v s' => Keeps s s' ∧ r.rel g.X s'.heap v) E s)
    (hbase : attributeBase o name g.env (eval o g.env) = eval o g.env) (hline : (apos.endLine == pos.line) = true)
    (he : ∀ env, starEach (e :: es) env = (false, eval e env) :: starEach es env) (hp : ∀ env, (backTo pos (starEach (e :: es) env)).any (·.1) = false)
    (hfew : ∀ env, ((backTo pos (starEach (e :: es) env)).all (fun x => !x.1) && (backToKw pos (keywordEach [] env)).all (fun x => x.1.isSome)
      && decide ((e :: es).length + ([] : List Keyword).length + (if ([] : List Keyword).isEmpty then 0 else 1) < 30)) = true) :
    Ev prog w H0 g g.X (.Call (.Attribute o name apos) (e :: es) [] pos) r := by
  intro s c E
  refine wpAny_Call_method hbase (hfew _) hline pa slot hty (ho.use c fun v s1 k1 c1 r1 => ⟨(hT s1 v r1).1, fun a q => absurd q ((hT s1 v r1).2 a), ?_⟩)
  refine Calls.callWith_builtin (hp _) (evalArgs_of he ?_)
  refine wpAny_mono (hs s1 c1 E) (fun vs s2 q => ?_) fun _ _ e => e
  exact wpAny_mono (hc s2 v vs E (c1.keep q.1) (b1.keep r1 q.1) q.2) (fun v s3 q3 => ⟨(k1.trans q.1).trans q3.1, q3.2⟩) fun _ _ e => e
end
end Mine
end

section
open PySem PySem.W PyProof.Rows
set_option maxRecDepth 100000
namespace Mine
set_option linter.unusedVariables false
set_option linter.unusedSimpArgs false
theorem nm_B64 {P : Params} : nsIn (hd.heap_1 P) mainGlobals "_B64" = some (some (.bytes b64tab.toArray 269)) := by kernel_rfl
def bv (x : List UInt8) : List Int := x.map fun c => (c.toNat : Int)
section
variable {prog : Program} {w : World} {H0 : Heap}

theorem fn_b2a (W : W0 (hd.heap_1 w.params) H0) {x : List UInt8} (hz : x.length ≤ 1000000) (hq : (est (bv x)).1 = 0) :
    Fn prog w H0 100 2 [tBytes.at x] [("newline", tBool.at false)] (tBytes.at ((est (bv x)).2.2.map fun n => n.toNat.toUInt8)) := by
  refine fn_intro (ρ := [("data", tBytes.at x), ("newline", tBool.at false)]) W rfl rfl ?_ rfl rfl rfl ?_ rfl rfl rfl
  · rintro s X vs kvs wd (_ | ⟨h1, _ | _⟩) (_ | @⟨⟨kn, kv⟩, _, _, _, ⟨h2, h3⟩, _ | _⟩)
    obtain rfl : kn = "newline" := h2
    exact ⟨[("data", _), ("newline", _)], BindsTo.of_eq rfl, .cons ⟨rfl, h1⟩ (.cons ⟨rfl, h3⟩ .nil)⟩
  · intro A L X0 X s₀ s hX sx
    refine st_assign sx (ev_call (ev_glob W rfl nm_buffer rfl) (evs_cons (ev_var rfl rfl rfl) evs_nil fun _ => rfl) (fn_buffer W) (Nat.le_refl _) fun _ => rfl) hTrue_st (.inl rfl) rfl fun s sx => ?_
    refine st_assign sx (ev_call (ev_glob W rfl nm_truth rfl) (evs_cons (ev_var rfl rfl rfl) evs_nil fun _ => rfl) (fn_truth W) (Nat.le_refl _) fun _ => rfl) hTrue_st (.inl rfl) rfl fun s sx => ?_
    refine st_newlist tInt sx (.inl rfl) fun D s fD0 fD sx nF => ?_
    have offF : ∀ {ys : List Int} {X' : XS}, (∀ a, Fa _ a → X' a) → (hList X' tInt D ys).StOff (Fa _) := fun h => hList_off nF h
    have faX : ∀ a, Fa _ a → (xI X D) a := fun a fa => sx.cx.fr.fa_x fa
    refine st_assign sx ev_int (offF faX) (.inl rfl) rfl fun s sx => ?_
    refine st_assign sx ev_int (offF faX) (.inl rfl) rfl fun s sx => ?_
    refine st_for sx (ev_var rfl rfl rfl) iter_bytes
      (fun i => [("leftchar", tInt.at (est ((bv x).take i)).2.1), ("leftbits", tInt.at (est ((bv x).take i)).1), ("out", bVal (.ref D)), ("newline", tBool.at false)])
      (fun I i => hList (xI (xI X D) I) tInt D (est ((bv x).take i)).2.2) (fun a => a = D) ?_ ?_ ?_ ?_ ?_ ?_ (.inl rfl) ?_ ?_ (fun _ => rfl) rfl
    · exact SubM.get ⟨rfl, rfl, rfl, rfl, trivial⟩
    · intro I h hI om
      exact hList_widen om fun b o n e q => q.elim n fun q => by rw [q, hI] at e; cases e
    · exact fun I i => offF fun a fa => .inl (faX a fa)
    · exact fun I i => hList_it (.inr rfl)
    · rintro a rfl; exact .inr rfl
    · rintro a rfl; exact .inr (fD.resolve_right id)
    · intro i bi I s₁ s' hbi sx
      rw [List.getElem?_map] at hbi
      obtain ⟨c, hc, rfl⟩ := Option.map_eq_some_iff.mp hbi
      have hvi : (bv x)[i]? = some (c.toNat : Int) := by unfold bv; rw [List.getElem?_map, hc]; rfl
      have hst := est_ok ((bv x).take i) (0, 0, []) ⟨.inl rfl, ⟨Int.le_refl 0, by decide⟩, by simp⟩ fun v hv' => by
        obtain ⟨c', hc', rfl⟩ := List.mem_map.mp (List.mem_of_mem_take hv')
        have := c'.toNat_lt
        omega
      have hlen : (est ((bv x).take i)).2.2.length ≤ 2 * i := est_len _ _
      have hi : i < x.length := by
        have := (List.getElem?_eq_some_iff.mp hc).1; exact this
      rw [est_snoc (bv x) i _ hvi]
      change EOk (est ((bv x).take i)) at hst
      generalize hS : est ((bv x).take i) = S at sx hst hlen ⊢
      obtain ⟨lb, lc, o⟩ := S
      dsimp only at sx hlen
      have hlb := hst.q
      have hlc := hst.l
      simp only at hlb hlc
      have F1 : ∀ {ys : List Int}, (hList (xI (xI X D) I) tInt D ys).StOff (Fa _) := offF fun a fa => .inl (faX a fa)
      refine st_assign sx (ev_bin (ev_bin (ev_bin (ev_var rfl rfl rfl) ev_int (op_shl (by decide) (by decide) (by omega))) (ev_var rfl rfl rfl) op_or) ev_int op_and) F1 (.inl rfl) rfl fun s sx => ?_
      refine st_assign sx (ev_bin (ev_var rfl rfl rfl) ev_int op_add) F1 (.inl rfl) rfl fun s sx => ?_
      have hN : eN lb ≤ 2 := by unfold eN; split <;> omega
      have hb : ∀ j : Nat, (j < eN lb → 6 ≤ lb + 8 - 6 * (j : Int)) ∧ ¬ 6 ≤ lb + 8 - 6 * (eN lb : Int) := by
        intro j
        unfold eN
        split <;> constructor <;> intro hj <;> omega
      refine st_while (eN lb) sx (fun j => [("leftbits", tInt.at (lb + 8 - 6 * (j : Int))), ("leftchar", tInt.at (elc lc (c.toNat : Int))), ("out", bVal (.ref D)), ("newline", tBool.at false)])
        (fun j => hList (xI (xI X D) I) tInt D (o ++ wl lb (elc lc (c.toNat : Int)) j)) ?_ ?_ ?_ ?_ ?_ ?_ rfl
      · exact ⟨by rw [show lb + 8 - 6 * ((0 : Nat) : Int) = lb + 8 from by omega]; rfl, rfl, rfl, rfl, trivial⟩
      · intro h om; simpa [wl] using om
      · intro j hj
        have : decide (6 ≤ lb + 8 - 6 * (j : Int)) = true := decide_eq_true ((hb j).1 hj)
        exact this ▸ ts_cmp (ev_var rfl rfl rfl) ev_int op_ge rfl
      · have : decide (6 ≤ lb + 8 - 6 * (eN lb : Int)) = false := decide_eq_false (hb 0).2
        exact this ▸ ts_cmp (ev_var rfl rfl rfl) ev_int op_ge rfl
      · intro j hj s sx
        have h6 := (hb j).1 hj
        have hr := Int.emod_nonneg ((elc lc (c.toNat : Int)).fdiv (2 ^ (lb + 8 - 6 * (j : Int) - 6).toNat)) (show (64 : Int) ≠ 0 by decide)
        have hr2 := Int.emod_lt_of_pos ((elc lc (c.toNat : Int)).fdiv (2 ^ (lb + 8 - 6 * (j : Int) - 6).toNat)) (show (0 : Int) < 64 by decide)
        refine st_append sx rfl rfl rfl (y := tabv (Builtin.bitAnd ((elc lc (c.toNat : Int)).fdiv (2 ^ (lb + 8 - 6 * (j : Int) - 6).toNat)) 63))
          (ev_itemB (xs := b64tab) (ev_globB W rfl nm_B64 rfl fun h => ⟨_, rfl⟩) (ev_bin (ev_bin (ev_var rfl rfl rfl) (ev_bin (ev_var rfl rfl rfl) ev_int op_sub) (op_shr (by omega))) ev_int op_and) (by rw [bitAnd_m6]; exact hr) (by rw [bitAnd_m6]; exact hr2) (by decide) (fun _ _ => rfl) (fun _ _ => rfl))
          (.inl (.inr rfl)) nF (.inl (.inr rfl)) (by unfold wl; simp; omega) (fun _ => rfl) rfl rfl rfl fun s sx => ?_
        refine st_assign sx (ev_bin (ev_var rfl rfl rfl) ev_int op_sub) F1 (.inl rfl) rfl fun s sx => st_nil ⟨.inl rfl, ?_⟩
        rw [wl_snoc, ← List.append_assoc]
        refine sx.sub ⟨?_, rfl, rfl, rfl, trivial⟩
        rw [show lb + 8 - 6 * ((j + 1 : Nat) : Int) = lb + 8 - 6 * (j : Int) - 6 from by omega]; rfl
      · intro s sx
        exact st_nil ⟨.inl rfl, sx.sub ⟨rfl, rfl, rfl, rfl, trivial⟩⟩
    · intro I s sx
      have hL : (x.map fun c => tInt.at (c.toNat : Int)).length = x.length := by simp
      have hT : (bv x).take x.length = bv x := List.take_of_length_le (by simp [bv])
      rw [hL, hT] at sx
      refine st_if sx (ts_cmp (ev_var rfl rfl rfl) ev_int op_eq rfl) (fun h => absurd (of_decide_eq_true h) (by omega)) fun _ s sx => ?_
      refine st_if sx (ts_cmp (ev_var rfl rfl rfl) ev_int op_eq rfl) (fun h => absurd (of_decide_eq_true h) (by omega)) fun _ s sx => st_nil (st_nil ?_)
      refine st_if sx (ts_val (ev_var rfl rfl rfl) tr_bool fun _ _ => rfl) (fun h => absurd h (by decide)) fun _ s sx => st_nil ?_
      have hst := est_ok (bv x) (0, 0, []) ⟨.inl rfl, ⟨Int.le_refl 0, by decide⟩, by simp⟩ fun v hv' => by
        obtain ⟨c', hc', rfl⟩ := List.mem_map.mp hv'
        have := c'.toNat_lt
        omega
      have hlen := est_len (bv x) x.length
      rw [hT] at hlen
      refine st_return sx (ev_callT (ev_boot W rfl nb_bytes rfl (by decide) rfl) (evs_cons (ev_own rfl rfl rfl rfl) evs_nil fun _ => rfl) (fun s vs E c h => cb_bytes c hst.o (by have : (est (bv x)).2.2.length ≤ 2 * x.length := hlen; unfold est at this; omega) h) (fun _ => rfl) (fun _ => rfl)) (fun a q => .inl (hX a q)) fun v s' => retOk
end
end Mine
end

section
open PySem PySem.W PyProof.Rows
set_option maxRecDepth 100000
namespace Mine
set_option linter.unusedVariables false
open Builtin
theorem slot_bytes_join : Slot "bytes" "join" "bytes.join" :=
  .of (owner := "bytes") (n := "join") (by rw [typeLookup_type, builtinLookup_eq_fast]; kernel_rfl) (by decide +kernel) (by decide +kernel) (by decide +kernel)
    (by first | exact .inl (by decide +kernel) | exact .inr (by decide +kernel)) (by rw [isSubtype_type]; kernel_rfl)
theorem type_bytes_join : typeOf (.builtin "bytes.join") = pure (.type "method_descriptor") := by show builtinType _ = _; rw [builtinType_eq_fast]; kernel_rfl
theorem entry_bytes_join : entryFor table "bytes.join" = some Builtin.«bytes.join» := entryFor_of_tree (by kernel_rfl)
theorem args_bytes_join_2 (a b : Value) : argsOk "bytes.join" ⟨[a, b], []⟩ := by
  unfold argsOk; rw [signature?_of (id := "bytes.join") (n := ['n', 'i', 'o', 'j']) (o := ['s', 'e', 't', 'y', 'b']) (by kernel_rfl) FB.owner_bytes]; kernel_rfl
theorem slot_bytes_translate : Slot "bytes" "translate" "bytes.translate" :=
  .of (owner := "bytes") (n := "translate") (by rw [typeLookup_type, builtinLookup_eq_fast]; kernel_rfl) (by decide +kernel) (by decide +kernel) (by decide +kernel)
    (by first | exact .inl (by decide +kernel) | exact .inr (by decide +kernel)) (by rw [isSubtype_type]; kernel_rfl)
theorem type_bytes_translate : typeOf (.builtin "bytes.translate") = pure (.type "method_descriptor") := by show builtinType _ = _; rw [builtinType_eq_fast]; kernel_rfl
theorem entry_bytes_translate : entryFor table "bytes.translate" = some Builtin.«bytes.translate» := entryFor_of_tree (by kernel_rfl)
theorem args_bytes_translate_2 (a b : Value) : argsOk "bytes.translate" ⟨[a, b], []⟩ := by
  unfold argsOk; rw [signature?_of (id := "bytes.translate") (n := ['e', 't', 'a', 'l', 's', 'n', 'a', 'r', 't']) (o := ['s', 'e', 't', 'y', 'b']) (by kernel_rfl) FB.owner_bytes]; kernel_rfl

theorem take_eq {id : String} {b : Array UInt8} {t : Tok} : Bytes.takeBuffer? id (.bytes b t) 0 = pure (some (b, none)) := by
  unfold Bytes.takeBuffer?
  rw [KBy.special_eq KBy.look_buffer, KBy.own_buffer]
  simp only [pure_bind]
  show (Bytes.buffer? id (.bytes b t) ((0 : Int) == Bytes.fullReadOnly) >>= fun r => pure (r.map (·, none))) = _
  rw [show ((0 : Int) == Bytes.fullReadOnly) = false by decide, KBy.buffer_eq]
  rfl
theorem takeQ_eq {id : String} {b : Array UInt8} {t : Tok} : Bytes.takeBufferQuiet? id (.bytes b t) 0 = pure (some (b, none)) := by
  unfold Bytes.takeBufferQuiet?
  rw [take_eq]
  rfl
section
variable {prog : Program} {w : World} {M : Model} {A : Around} {E : Value → Shared → Prop} {s : Shared}

theorem letGoAll {taken : List (Value × Option Value)} {keep : List Value} {Q : Unit → Shared → Prop} (ht : ∀ p ∈ taken, p.2 = none) (h : Q () s) : wpAny M A (Bytes.joinLetGo taken keep) Q E s := by
  induction taken with
  | nil => exact wpAny_pure h
  | cons p r ih =>
    obtain ⟨x, w⟩ := p
    obtain rfl : w = none := ht (x, w) (by simp)
    unfold Bytes.joinLetGo
    exact wpAny_bind (wpAny_letGo (ih fun p hp => ht p (by simp [hp])))

theorem m1_one {α : Type} (x : Value) (f : Value → α) (g : Array Value → α) : Bytes.joinM.match_1 (fun _ => α) #[x] f g = f x := rfl
theorem m1_other {α : Type} {arr : Array Value} (h : arr.size ≠ 1) (f : Value → α) (g : Array Value → α) : Bytes.joinM.match_1 (fun _ => α) arr f g = g arr := by
  unfold Bytes.joinM.match_1
  rw [dif_neg h]
theorem joined_nil (xs : List (List UInt8)) : Bytes.joined #[] (xs.map List.toArray) = xs.flatten.toArray := by
  have key : ∀ (xs : List (List UInt8)) (k : Nat) (out : List UInt8), ((xs.map List.toArray).zipIdx k).foldl (fun (out : Array UInt8) (pi : Array UInt8 × Nat) => (if pi.2 > 0 then out ++ #[] else out) ++ pi.1) out.toArray = (out ++ xs.flatten).toArray := by
    intro xs
    induction xs with
    | nil => intro k out; simp
    | cons x xs ih =>
      intro k out
      simp only [List.map_cons, List.zipIdx_cons, List.foldl_cons]
      have : ((if k > 0 then out.toArray ++ #[] else out.toArray) ++ x.toArray) = (out ++ x).toArray := by split <;> simp
      rw [this, ih]; simp
  exact key xs 0 []
theorem sizes_foldl : ∀ (xs : List (List UInt8)) (n : Nat), (xs.map List.toArray).toArray.foldl (fun x1 x2 => x1 + x2.size) n = n + xs.flatten.length := by
  intro xs
  induction xs with
  | nil => intro n; simp
  | cons x xs ih =>
    intro n
    have := ih (n + x.length)
    simp only [List.map_cons, List.foldl_toArray', List.foldl_cons, List.size_toArray] at this ⊢
    simp only [List.foldl_toArray', List.foldl_cons, List.size_toArray] at *
    rw [this]; simp; omega
theorem run_join {t : Tok} {a : Addr} {vs : List Value} {xs : List (List UInt8)} (l : s.heap.IsList a vs.toArray) (hv : All2 (fun v x => ∃ t, v = Value.bytes x.toArray t) vs xs) {P : Fin → Shared → Prop}
    (hz : xs.flatten.length ≤ 16777216) (h1 : ∀ x, xs = [x] → ∀ t, P (.done (.ret (.bytes x.toArray t))) s) (h : P (.done (.ret (.bytes xs.flatten.toArray s.toks))) { s with toks := s.toks + 1 }) :
    wpAny M A (Builtin.«bytes.join» ⟨[.bytes #[] t, .ref a], []⟩) P E s := by
  unfold Builtin.«bytes.join» Bytes.joinM
  refine wpAny_bind (wpAny_of_eq (a := (.bytes #[] t, .ref a)) rfl ?_)
  dsimp only
  refine wpAny_bind (m := Bytes.joinItems (.ref a)) ?_
  unfold Bytes.joinItems
  refine wpAny_bind (wpAny_typeOf l.typeIs ?_)
  refine wpAny_pure ?_
  refine wpAny_bind (m := seqItems? (.ref a)) ?_
  obtain ⟨o, ho, hc, n, hd⟩ := l
  have hseq : ∀ (s' : Shared) {Q : Option (Array Value) → Shared → Prop}, s'.heap = s.heap → Q (some vs.toArray) s' → wpAny M A (seqItems? (.ref a)) Q E s' := by
    intro s' Q e q
    unfold seqItems?
    refine wpAny_bind (wpAny_load (by rw [e]; exact ho) ?_)
    rw [hd]
    exact wpAny_pure q
  refine hseq s rfl ?_
  dsimp only
  refine KFB.if_so rfl ?_
  by_cases hone : vs.length = 1
  · obtain ⟨x, rfl⟩ := List.length_eq_one_iff.mp hone
    obtain _ | ⟨⟨t', rfl⟩, _ | _⟩ := hv
    rw [m1_one]
    refine wpAny_bind (wpAny_typeOf (typeIs_bytes _ _ _) ?_)
    refine KFB.if_so rfl ?_
    exact wpAny_bind (wpAny_rule (wpAny_pure (h1 _ rfl _)))
  · have hlen : vs.toArray.size = vs.length := by simp
    rw [m1_other (by rw [hlen]; exact hone)]
    refine wpAny_bind ?_
    rw [Std.Legacy.Range.forIn_eq_forIn_range']
    refine wpAny_forIn_list _ (fun rest b s' => s' = s ∧ ∃ i, rest = List.range' i (vs.length - i) ∧ i ≤ vs.length ∧ b.1 = ((xs.take i).map List.toArray).toArray ∧ (∀ p ∈ b.2, p.2 = none ∧ p.1.onHeap = false)) _ ?_ ?_ _ _ ⟨rfl, 0, by simp [Std.Legacy.Range.size, hlen], Nat.zero_le _, by simp, by simp⟩
    · rintro x rest ⟨parts, taken⟩ s' ⟨rfl, i, hr, hi, hp, ht⟩
      have hlt : i < vs.length := by
        rcases Nat.lt_or_ge i vs.length with q | q
        · exact q
        · rw [show vs.length - i = 0 by omega] at hr; cases hr
      rw [show vs.length - i = (vs.length - (i + 1)) + 1 by omega, List.range'_succ] at hr
      obtain ⟨rfl, rfl⟩ := List.cons.inj hr
      obtain ⟨b, hb, tk, hbt⟩ := hv.get (List.getElem?_eq_getElem hlt)
      refine wpAny_bind (hseq _ rfl ?_)
      have hnow : vs.toArray.getD x Value.none = Value.bytes b.toArray tk := by simp [Array.getD, hlt, hbt]
      dsimp only at hp ht ⊢
      refine KFB.if_not (by
        rw [Bool.or_eq_false_iff]
        refine ⟨rfl, ?_⟩
        rw [List.any_eq_false]
        intro p hp'
        rw [(ht p hp').2]; decide) ?_
      rw [hnow]
      refine wpAny_bind (wpAny_holding (wpAny_of_eq takeQ_eq ?_))
      dsimp only
      refine wpAny_bind (hseq _ rfl ?_)
      dsimp only
      refine KFB.if_not (by simp) (wpAny_pure ?_)
      refine ⟨rfl, x + 1, rfl, hlt, ?_, ?_⟩
      · rw [hp]; rw [List.take_add_one, hb]; simp
      · intro p hp'
        rcases List.mem_append.mp hp' with q | q
        · exact ht p q
        · obtain rfl := List.mem_singleton.mp q; exact ⟨rfl, rfl⟩
    · rintro ⟨parts, taken⟩ s' ⟨rfl, i, hr, hi, hp, ht⟩
      have hi' : i = vs.length := by
        rcases Nat.lt_or_ge i vs.length with q | q
        · rw [show vs.length - i = (vs.length - (i + 1)) + 1 by omega, List.range'_succ] at hr; cases hr
        · omega
      have hX : xs.take i = xs := List.take_of_length_le (by rw [← hv.length]; omega)
      dsimp only at hp ht ⊢
      rw [hX] at hp
      refine wpAny_bind (wpAny_of_eq (a := #[]) rfl ?_)
      rw [hp]
      refine KFB.if_not ?_ ?_
      · rw [sizes_foldl]; exact KBy.tooLong_not (by simpa using hz)
      · refine wpAny_bind (m := mkBytes _) (wpAny_mkBytes ?_ ?_)
        · refine wpAny_bind (wpAny_holding (wpAny_point ?_))
          refine wpAny_bind (letGoAll (fun p hp' => (ht p hp').1) (wpAny_pure ?_))
          rw [show (xs.map List.toArray).toArray.toList = xs.map List.toArray from rfl, joined_nil]; exact h
        · rw [show (xs.map List.toArray).toArray.toList = xs.map List.toArray from rfl, joined_nil, sizeLine_eq]; simpa using hz
end
section
variable {prog : Program} {w : World} {H0 : Heap} {g : Γ} {Y2 Y : XS}
/-- b''.join(list of bytes) -/
theorem cb_join {s : Shared} {v : Value} {vs : List Value} {E : Value → Shared → Prop} {xs : List (List UInt8)} (hz : xs.flatten.length ≤ 16777216) (hv : (tBytes.at []).rel Y s.heap v) (h : All2 (fun v (b : Bd) => b.rel Y2 s.heap v) vs [(tList tBytes).at xs]) :
    wpAny (model prog w) g.A (call (.builtin "bytes.join") (v :: vs)) (fun v s' => Keeps s s' ∧ (tBytes.at xs.flatten).rel g.X s'.heap v) E s := by
  obtain _ | ⟨⟨a, us, rfl, n, l, r⟩, _ | _⟩ := h
  obtain ⟨t, rfl⟩ := hv
  refine wpAny_call_entry slot_bytes_join (typeIs_bytes _ _ _) entry_bytes_join (run_join l r hz (fun x hx t => ⟨_, rfl, Keeps.refl s, t, ?_⟩) ⟨_, rfl, Keeps.tok _ _, _, rfl⟩) (args_bytes_join_2 _ _)
  subst hx; simp

def trb (tab x : List UInt8) : List UInt8 := x.map fun c => tab.toArray.getD c.toNat c
theorem run_translate {M : Model} {A : Around} {E : Value → Shared → Prop} {s : Shared} {x tab : List UInt8} {t u : Tok} {P : Fin → Shared → Prop} (ht : tab.length = 256) (hz : x.length ≤ 16777216)
    (h : ∀ k t', P (.done (.ret (.bytes (trb tab x).toArray t'))) { s with toks := k }) : wpAny M A (Builtin.«bytes.translate» ⟨[.bytes x.toArray t, .bytes tab.toArray u], []⟩) P E s := by
  unfold Builtin.«bytes.translate» Bytes.translateM
  dsimp only
  rw [if_neg (by simp)]
  refine KFB.if_not rfl ?_
  refine KFB.if_not rfl ?_
  refine wpAny_bind (wpAny_of_eq KBd.like_eq ?_)
  refine KFB.if_not (by simp [ht]) (wpAny_bind (wpAny_pure ?_))
  refine wpAny_bind (wpAny_of_eq (a := #[]) rfl ?_)
  refine wpAny_bind (wpAny_of_eq (a := x.toArray) rfl ?_)
  dsimp only
  have hout : ((x.toArray.filter fun c => !(#[] : Array UInt8).contains c).map fun c => tab.toArray.getD c.toNat c) = (trb tab x).toArray := by
    rw [show (fun c : UInt8 => !(#[] : Array UInt8).contains c) = fun _ => true from funext fun c => by simp]
    simp [trb, List.filter_eq_self.mpr]
  rw [hout]
  by_cases hb : ((trb tab x).toArray == x.toArray) = true
  · refine KFB.if_so hb ?_
    refine wpAny_bind (wpAny_rule ?_)
    refine wpAny_bind (m := Bytes.Kind.same .bytes _) ?_
    unfold Bytes.Kind.same
    refine KFB.if_so rfl ?_
    refine wpAny_bind (wpAny_typeOf (typeIs_bytes _ _ _) ?_)
    refine KFB.if_so rfl (wpAny_pure (wpAny_pure ?_))
    rw [← eq_of_beq hb]
    exact h s.toks t
  · refine KFB.if_not (by simpa using hb) ?_
    exact wpAny_bind (m := mkBytes _) (wpAny_mkBytes (wpAny_pure (h _ _)) (by rw [sizeLine_eq]; simpa [trb] using hz))
theorem cb_translate {s : Shared} {v : Value} {vs : List Value} {E : Value → Shared → Prop} {x tab : List UInt8} (ht : tab.length = 256) (hz : x.length ≤ 16777216) (hv : (tBytes.at x).rel Y s.heap v) (h : All2 (fun v (b : Bd) => b.rel Y2 s.heap v) vs [tBytes.at tab]) :
    wpAny (model prog w) g.A (call (.builtin "bytes.translate") (v :: vs)) (fun v s' => Keeps s s' ∧ (tBytes.at (trb tab x)).rel g.X s'.heap v) E s := by
  obtain _ | ⟨⟨u, rfl⟩, _ | _⟩ := h
  obtain ⟨t, rfl⟩ := hv
  exact wpAny_call_entry slot_bytes_translate (typeIs_bytes _ _ _) entry_bytes_translate (run_translate ht hz fun k t' => ⟨_, rfl, Keeps.tok _ _, _, rfl⟩) (args_bytes_translate_2 _ _)
end
end Mine
end

section
open PySem PySem.W PyProof.Rows
set_option maxRecDepth 100000
namespace Mine
set_option linter.unusedVariables false
open Builtin
theorem entry_maketrans : entryFor table "bytes.maketrans" = some Builtin.«bytes.maketrans» := entryFor_of_tree (by kernel_rfl)
theorem plain_maketrans : plainId "bytes.maketrans" = true := by decide +kernel
theorem check_maketrans (a b : Value) : checkBuiltinCall "bytes.maketrans" ⟨[a, b], []⟩ = pure () := by kernel_rfl
theorem find_maketrans (P : Params) : findCls (hd.heap_1 P) (.type "bytes") (.type "type") (PySem.Str.ofString "maketrans") = some (.val (.builtin "bytes.maketrans")) := by kernel_rfl
def mkt (f t : List UInt8) : List UInt8 := ((f.zip t).foldl (fun (t : Array UInt8) (p : UInt8 × UInt8) => t.setIfInBounds p.1.toNat p.2) ((Array.range 256).map (·.toUInt8))).toList
theorem run_maketrans {M : Model} {A : Around} {E : Value → Shared → Prop} {s : Shared} {x y : List UInt8} {t u : Tok} {P : Fin → Shared → Prop} (hl : x.length = y.length) (hz : (mkt x y).length ≤ 16777216)
    (h : P (.done (.ret (.bytes (mkt x y).toArray s.toks))) { s with toks := s.toks + 1 }) : wpAny M A (Builtin.«bytes.maketrans» ⟨[.bytes x.toArray t, .bytes y.toArray u], []⟩) P E s := by
  unfold Builtin.«bytes.maketrans» Bytes.maketransM
  refine wpAny_bind (wpAny_of_eq (a := ()) rfl ?_)
  refine wpAny_bind (wpAny_of_eq (a := ()) rfl ?_)
  refine wpAny_bind (wpAny_of_eq KBd.like_eq ?_)
  refine wpAny_bind (wpAny_of_eq KBd.like_eq ?_)
  refine KFB.if_not (by simp [hl]) ?_
  refine wpAny_bind (m := mkBytes _) (wpAny_mkBytes (wpAny_pure ?_) ?_)
  · exact h
  · rw [sizeLine_eq]; exact hz
section
variable {prog : Program} {w : World} {H0 : Heap} {g : Γ} {Y1 Y2 Y : XS}
theorem getm_type {A : Around} {E : Value → Shared → Prop} {s : Shared} {K : Frag} {n : Str} {pl : Sem Bool} {T id : String} {Q : Value × List Value → Shared → Prop} (X : K.In s.heap)
    (e : findCls K (.type T) (.type "type") n = some (.val (.builtin id))) (ht : typeOf (.type T) = pure (.type "type")) (hstub : Manifest.isStub T = false) (hh : handedIn (.builtin id) = true)
    (h : Q (.builtin id, []) { s with toks := s.toks + 1 }) : wpAny (model prog w) A (getMethod (.type T) n pl) Q E s := by
  have hst : opaqueClassAbove (.type T) = pure none := by unfold opaqueClassAbove; dsimp only; rw [hstub]; rfl
  have L0 : Looks (model prog w) s.heap (typeOf (.type T)) (.type "type") := Looks.of_pure ht
  have hg : findIn K (.type "type") "__getattribute__" = some (some (.builtin "type.__getattribute__")) := type_tga
  unfold getMethod specialOf
  refine wpAny_bind (wpAny_bind (L0.here ((looks_findIn X hg).here ?_)))
  dsimp only
  rw [if_pos canon_tga]
  refine wpAny_bind (wpAny_mono (Q := fun v => Q (v, [])) (E := E) ?_ (fun _ _ z => wpAny_pure z) fun _ _ z => z)
  have LO : Looks (model prog w) s.heap (opaqueClassAbove (.type T)) none := Looks.of_pure hst
  refine cls_open X LO L0 hg (looks_hook X (r := none) (by rfl)) (by show subIn K _ _ = _; rfl) e ?_
  exact wpAny_pure (handed_on hh h)
/-- a static method of a built-in type, named by its class -/
theorem ev_static {K : Frag} {o e : Expr} {es : List Expr} {r : Bd} {bs : List Bd} {name : Str} {apos pos : Pos} {T id : String} (W : W0 K H0)
    (ho : Ev prog w H0 g Y1 o (bVal (.type T))) (hfind : findCls K (.type T) (.type "type") name = some (.val (.builtin id))) (ht : typeOf (.type T) = pure (.type "type")) (hstub : Manifest.isStub T = false) (hh : handedIn (.builtin id) = true)
    (hs : Evs prog w H0 g Y2 pos (e :: es) bs)
    (hc : ∀ s vs E, Cx H0 g s → All2 (fun v (b : Bd) => b.rel Y2 s.heap v) vs bs → wpAny (model prog w) g.A (call (.builtin id) vs) (fun v s' => Keeps s s' ∧ r.rel g.X s'.heap v) E s)
    (hbase : attributeBase o name g.env (eval o g.env) = eval o g.env) (hline : (apos.endLine == pos.line) = true)
    (he : ∀ env, starEach (e :: es) env = (false, eval e env) :: starEach es env) (hp : ∀ env, (backTo pos (starEach (e :: es) env)).any (·.1) = false)
    (hfew : ∀ env, ((backTo pos (starEach (e :: es) env)).all (fun x => !x.1) && (backToKw pos (keywordEach [] env)).all (fun x => x.1.isSome)
      && decide ((e :: es).length + ([] : List Keyword).length + (if ([] : List Keyword).isEmpty then 0 else 1) < 30)) = true) :
    Ev prog w H0 g g.X (.Call (.Attribute o name apos) (e :: es) [] pos) r := by
  intro s c E
  rw [arm_eval_Call, hbase]
  refine wpAny_bind (ho.use c fun v s1 k1 c1 r1 => ?_)
  obtain rfl : v = .type T := r1
  refine wpAny_bind (wpAny_standAt ?_)
  have hform : methodCallForm ((e :: es).length + ([] : List Keyword).length) (backTo pos (starEach (e :: es) g.env)) (backToKw pos (keywordEach [] g.env)) = true := hfew _
  have hpos : methodCallPos true o g.env apos pos = pure pos := by unfold methodCallPos; simp [hline]
  unfold methodCall
  rw [hform]
  have kt := Keeps.tok s1 (s1.toks + 1)
  refine wpAny_bind (wpAny_holding (getm_type (fun a o e => c1.wd.keep _ _ (W.kin a o e)) hfind ht hstub hh ?_))
  refine wpAny_bind (wpAny_of_eq hpos ?_)
  refine Calls.callWith_builtin (hp _) (evalArgs_of he ?_)
  refine wpAny_mono (hs _ (c1.keep kt) E) (fun vs s2 q => ?_) fun _ _ e => e
  exact wpAny_mono (hc s2 vs E ((c1.keep kt).keep q.1) q.2) (fun v s3 q3 => ⟨((k1.trans kt).trans q.1).trans q3.1, q3.2⟩) fun _ _ e => e
theorem cb_maketrans {s : Shared} {vs : List Value} {E : Value → Shared → Prop} {x y : List UInt8} (hl : x.length = y.length) (hz : (mkt x y).length ≤ 16777216) (h : All2 (fun v (b : Bd) => b.rel Y2 s.heap v) vs [tBytes.at x, tBytes.at y]) :
    wpAny (model prog w) g.A (call (.builtin "bytes.maketrans") vs) (fun v s' => Keeps s s' ∧ (tBytes.at (mkt x y)).rel g.X s'.heap v) E s := by
  obtain _ | ⟨⟨t, rfl⟩, _ | ⟨⟨u, rfl⟩, _ | _⟩⟩ := h
  refine wpAny_call (codeAny_call_builtin plain_maketrans entry_maketrans ?_)
  refine wpAny_of_eq (check_maketrans _ _) ?_
  refine run_maketrans hl hz ?_
  exact ⟨Keeps.tok _ _, _, rfl⟩
end
end Mine
end

section
open PySem PySem.W PyProof.Rows
set_option maxRecDepth 100000
namespace Mine
set_option linter.unusedVariables false
open Builtin
/-- the text of octets -/
def strO (x : List UInt8) : Str := ⟨(x.map fun c => c.toNat).toArray⟩
def oneS (c : UInt8) : Str := ⟨#[c.toNat]⟩
theorem glued_one (x : List UInt8) : Str.glued (Str.ofString "") (x.map oneS) = strO x := by
  cases x with
  | nil => rfl
  | cons c x =>
    have key : ∀ (x : List UInt8) (acc : List Nat), (x.map oneS).foldl (fun (acc : Array Nat) (p : Str) => acc ++ (Str.ofString "").cps ++ p.cps) acc.toArray = (acc ++ x.map fun c => c.toNat).toArray := by
      intro x
      induction x with
      | nil => intro acc; simp
      | cons d x ih =>
        intro acc
        simp only [List.map_cons, List.foldl_cons]
        have : acc.toArray ++ (Str.ofString "").cps ++ (oneS d).cps = (acc ++ [d.toNat]).toArray := by
          rw [show (Str.ofString "").cps = #[] from rfl]; simp [oneS]
        rw [this, ih]; simp
    have := key x [c.toNat]
    unfold Str.glued strO
    simp only [List.map_cons, List.drop_succ_cons, List.drop_zero, List.headD_cons]
    exact congrArg Str.mk (this.trans (by simp))
theorem run_narrow {M : Model} {A : Around} {E : Value → Shared → Prop} {s : Shared} {x : List UInt8} {id : String} {self : Value} {Q : Array UInt8 → Shared → Prop} (hx : ∀ c ∈ x, c.toNat < 128) (hz : x.length ≤ 16777216)
    (h : Q x.toArray s) : wpAny M A (_codecs.encodeNarrow id _codecs.asciiCodec none self (strO x)) Q E s := by
  unfold _codecs.encodeNarrow
  dsimp only
  rw [Std.Legacy.Range.forIn_eq_forIn_range']
  refine wpAny_bind ?_
  have hsz : (strO x).length = x.length := by show (strO x).cps.size = _; simp [strO]
  have hcp : (strO x).cps.size = x.length := hsz
  refine wpAny_forIn_list _ (fun rest b s' => s' = s ∧ ((b.1 = 0 ∧ b.2.1 = #[] ∧ rest.length = x.length) ∨ (b.1 = x.length ∧ b.2.1 = x.toArray))) _ ?_ ?_ _ _ ⟨rfl, .inl ⟨rfl, rfl, by simp [Std.Legacy.Range.size, hsz]⟩⟩
  · rintro k rest ⟨i, out, st⟩ s' ⟨rfl, ⟨h1, h2, h3⟩ | ⟨h1, h2⟩⟩
    · dsimp only at h1 h2
      subst h1 h2
      rw [if_neg (by simp)]
      cases x with
      | nil => simp at h3
      | cons c x =>
        dsimp only
        rw [show (strO (c :: x)).cps[0]? = some c.toNat by simp [strO]]
        dsimp only
        have hbad : ∀ d ∈ c :: x, _codecs.asciiCodec.bad d.toNat = false := fun d hd' => by
          show decide (d.toNat ≥ 128) = false
          have := hx d hd'
          exact decide_eq_false (by omega)
        refine KFB.if_so (by rw [hbad c (by simp)]; rfl) (wpAny_pure ⟨rfl, .inr ?_⟩)
        have hex : (strO (c :: x)).cps.extract 0 = (strO (c :: x)).cps := by simp
        rw [hex]
        have hf : (strO (c :: x)).cps.findIdx? _codecs.asciiCodec.bad = none := by
          rw [Array.findIdx?_eq_none_iff]
          intro y hy
          have : y ∈ ((c :: x).map fun c => c.toNat) := by simpa [strO] using hy
          obtain ⟨d, hd', rfl⟩ := List.mem_map.mp this
          exact hbad d hd'
        rw [hf]
        dsimp only [Option.getD]
        rw [hcp]
        refine ⟨by simp, ?_⟩
        have hex2 : (strO (c :: x)).cps.extract 0 (c :: x).length = (strO (c :: x)).cps := by rw [← hcp]; simp
        rw [hex2]
        have key : ∀ (l : List UInt8) (acc : List UInt8), (l.map fun c => c.toNat).foldl (fun (acc : Array UInt8) y => acc ++ (_codecs.asciiCodec.bytesOf y).toArray) acc.toArray = (acc ++ l).toArray := by
          intro l
          induction l with
          | nil => intro acc; simp
          | cons d l ih =>
            intro acc
            simp only [List.map_cons, List.foldl_cons]
            have : acc.toArray ++ (_codecs.asciiCodec.bytesOf d.toNat).toArray = (acc ++ [d]).toArray := by
              show acc.toArray ++ [d.toNat.toUInt8].toArray = _
              simp
            rw [this, ih]; simp
        have := key (c :: x) []
        simpa [strO] using this
    · dsimp only at h1 h2
      subst h1 h2
      rw [if_neg (by rw [sizeLine_eq]; simp; omega)]
      dsimp only
      rw [show (strO x).cps[x.length]? = none by rw [← hcp]; simp]
      exact wpAny_pure (wpAny_pure h)
  · rintro ⟨i, out, st⟩ s' ⟨rfl, ⟨h1, h2, h3⟩ | ⟨h1, h2⟩⟩
    · dsimp only at h2 ⊢
      have : x = [] := by cases x with | nil => rfl | cons c x => simp at h3
      subst this h2
      exact wpAny_pure h
    · dsimp only at h2 ⊢
      subst h2
      exact wpAny_pure h
theorem road_ascii (id : String) (self : Value) (x : Str) : _codecs.encodeRoad id self x (Str.ofString "ascii") none = (_codecs.encodeNarrow id _codecs.asciiCodec none self x >>= fun b => mkBytes b) := by
  unfold _codecs.encodeRoad
  have : (_codecs.normalName (Str.ofString "ascii")).toString = "ascii" := by decide +kernel
  rw [this]
  kernel_rfl
theorem run_encode {M : Model} {A : Around} {E : Value → Shared → Prop} {s : Shared} {x : List UInt8} {t u : Tok} {P : Fin → Shared → Prop} (hx : ∀ c ∈ x, c.toNat < 128) (hz : x.length ≤ 16777216)
    (h : P (.done (.ret (.bytes x.toArray s.toks))) { s with toks := s.toks + 1 }) : wpAny M A (Builtin.«str.encode» ⟨[.str (strO x) t, .str (Str.ofString "ascii") u], []⟩) P E s := by
  have e : Builtin.«str.encode» ⟨[.str (strO x) t, .str (Str.ofString "ascii") u], []⟩ = (_codecs.encodeRoad "str.encode" (.str (strO x) t) (strO x) (Str.ofString "ascii") none >>= fun v => ret v) := by kernel_rfl
  rw [e, road_ascii]
  refine wpAny_bind (wpAny_bind (run_narrow hx hz ?_))
  exact wpAny_mkBytes (wpAny_pure h) (by rw [sizeLine_eq]; simpa using hz)
section
variable {prog : Program} {w : World} {H0 : Heap} {g : Γ} {Y2 Y : XS}
theorem cb_encode {s : Shared} {v : Value} {vs : List Value} {E : Value → Shared → Prop} {x : List UInt8} (hx : ∀ c ∈ x, c.toNat < 128) (hz : x.length ≤ 16777216) (hv : (tStr.at (strO x)).rel Y s.heap v) (h : All2 (fun v (b : Bd) => b.rel Y2 s.heap v) vs [tStr.at (Str.ofString "ascii")]) :
    wpAny (model prog w) g.A (call (.builtin "str.encode") (v :: vs)) (fun v s' => Keeps s s' ∧ (tBytes.at x).rel g.X s'.heap v) E s := by
  obtain _ | ⟨⟨u, rfl⟩, _ | _⟩ := h
  obtain ⟨t, rfl⟩ := hv
  exact wpAny_call_entry F.slot_str_encode (typeIs_str _ _ _) F.entry_str_encode (run_encode hx hz ⟨_, rfl, Keeps.tok _ _, _, rfl⟩) (F.args_str_encode_2 _ _)
theorem cb_chr {s : Shared} {vs : List Value} {E : Value → Shared → Prop} {c : UInt8} (h : All2 (fun v (b : Bd) => b.rel Y2 s.heap v) vs [tInt.at (c.toNat : Int)]) :
    wpAny (model prog w) g.A (call (.builtin "chr") vs) (fun v s' => Keeps s s' ∧ (tStr.at (oneS c)).rel g.X s'.heap v) E s := by
  obtain _ | ⟨⟨u, rfl⟩, _ | _⟩ := h
  have := c.toNat_lt
  exact chr_of_range (by omega) (by omega) ⟨Keeps.tok _ _, _, rfl⟩
theorem strs_all2 {X : XS} {h : Heap} : ∀ {vs : List Value} {ns : List Str}, All2 (fun v x => tStr.rel X h v x) vs ns → ∃ l : List (Str × Tok), strValues l = vs ∧ l.map (·.1) = ns
  | _, _, .nil => ⟨[], rfl, rfl⟩
  | _, _, .cons (b := n) ⟨t, e⟩ r => by
    obtain ⟨l, h1, h2⟩ := strs_all2 r
    exact ⟨(n, t) :: l, by rw [e, ← h1]; rfl, by rw [← h2]; rfl⟩
theorem cb_sjoin {s : Shared} {v : Value} {vs : List Value} {E : Value → Shared → Prop} {x : List UInt8} (hz : x.length ≤ 500000) (hv : (tStr.at (Str.ofString "")).rel Y s.heap v) (h : All2 (fun v (b : Bd) => b.rel Y2 s.heap v) vs [(tList tStr).at (x.map oneS)]) :
    wpAny (model prog w) g.A (call (.builtin "str.join") (v :: vs)) (fun v s' => Keeps s s' ∧ (tStr.at (strO x)).rel g.X s'.heap v) E s := by
  obtain _ | ⟨⟨a, us, rfl, n, l, r⟩, _ | _⟩ := h
  obtain ⟨t, rfl⟩ := hv
  obtain ⟨l', rfl, h2⟩ := strs_all2 r
  have hok : JoinOk (Str.ofString "") (x.map oneS) = true := joinOk_of_weight (by
    have : ((x.map oneS).map (·.length)).sum = x.length := by
      clear h2 r l hz
      induction x with
      | nil => rfl
      | cons c x ih => simp only [List.map_cons, List.sum_cons, ih, List.length_cons]; show 1 + x.length = _; omega
    rw [this]; simp; omega) (by decide)
  refine call_meets F.slot_str_join (typeIs_str _ _ _) F.entry_str_join (F.args_str_join_2 _ _) (meets_str_join_list _ t a l' (by rw [h2]; simpa [JoinOk] using hok)) ⟨l, post_join l' ⟨?_, fun t' k => ⟨Keeps.tok _ _, t', ?_⟩⟩⟩
  · rw [h2]; exact joinOk_length hok
  · rw [h2]; show Value.str (Str.glued _ _) t' = _; rw [glued_one]
end
end Mine
end

section
open PySem PySem.W PyProof.Rows
set_option maxRecDepth 100000
namespace Mine
set_option linter.unusedVariables false
set_option linter.unusedSimpArgs false
def u8 (l : List Int) : List UInt8 := l.map fun n => n.toNat.toUInt8
def enc (x : List UInt8) : List UInt8 := (est (bv x)).2.2.map fun n => n.toNat.toUInt8
def dec (x : List UInt8) : List UInt8 := (dst (sv x)).2.2.map fun n => n.toNat.toUInt8
structure EncOk (x : List UInt8) : Prop where
  z : x.length ≤ 400000
  q : (est (bv x)).1 = 0
structure DecOk (x : List UInt8) : Prop where
  v : ∀ c ∈ x, b64v (c.toNat : Int) < 64
  z : x.length ≤ 1000000
  q : (dst (sv x)).1 = 0
theorem enc_len {x : List UInt8} (h : EncOk x) : (enc x).length ≤ 800000 := by
  have := est_len (bv x) (bv x).length
  rw [List.take_length] at this
  have h2 := h.z
  unfold enc
  rw [List.length_map]
  simp [bv] at this
  unfold bv
  omega
section
variable {prog : Program} {w : World} {H0 : Heap}
theorem op_isNotNone {g : Γ} {Y1 Y2 Y : XS} {b1 : Bd} {cc : Bool} (hb : ∀ (s : Shared) (v1 : Value), b1.rel Y1 s.heap v1 → (!(v1 == Value.none)) = cc) : OpOk prog w H0 g (compareOp .IsNot) Y1 b1 Y2 (tNone.at ()) Y (tBool.at cc) := by
  rintro s v1 v2 E c r rfl
  exact isnot_none_gen ⟨Keeps.refl s, congrArg Value.bool (hb s v1 r)⟩
theorem nn_bytes {Y : XS} {x : List UInt8} : ∀ (s : Shared) (v : Value), (tBytes.at x).rel Y s.heap v → (!(v == Value.none)) = true := by rintro s v ⟨t, rfl⟩; rfl
theorem nn_none {Y : XS} : ∀ (s : Shared) (v : Value), (tNone.at ()).rel Y s.heap v → (!(v == Value.none)) = false := by rintro s v rfl; rfl
theorem ty_nr {Y : XS} {x : List UInt8} : ∀ (s : Shared) (v : Value), (tBytes.at x).rel Y s.heap v → s.TypeIs v "bytes" ∧ ∀ a, v ≠ .ref a := by
  rintro s v ⟨t, rfl⟩; exact ⟨typeIs_bytes _ _ _, fun a h => by cases h⟩
theorem ty_nrs {Y : XS} {x : Str} : ∀ (s : Shared) (v : Value), (tStr.at x).rel Y s.heap v → s.TypeIs v "str" ∧ ∀ a, v ≠ .ref a := by
  rintro s v ⟨t, rfl⟩; exact ⟨typeIs_str _ _ _, fun a h => by cases h⟩
theorem ev_lenB {g : Γ} (W : W0 (hd.heap_1 w.params) H0) {Y : XS} {e : Expr} {x : List UInt8} {p pos : Pos} (h : Ev prog w H0 g Y e (tBytes.at x)) (hz : x.length ≤ 16777216) (hk : g.env.kindOf "len" = some .globalImplicit)
    (he : ∀ env, starEach [e] env = (false, eval e env) :: starEach [] env) (hp : ∀ env, (backTo pos (starEach [e] env)).any (·.1) = false) : Ev prog w H0 g g.X (.Call (.Name "len" p) [e] [] pos) (tInt.at (x.length : Int)) :=
  ev_callB (id := "len") (ev_boot W hk nb_len rfl (by decide) rfl) (evs_cons h evs_nil he) (fun s vs E c h => cb_lenB hz h) he hp
theorem ev_lenL {g : Γ} {α : Type} {t : Ty α} (W : W0 (hd.heap_1 w.params) H0) {Y : XS} {e : Expr} {x : List α} {p pos : Pos} (h : Ev prog w H0 g Y e ((tList t).at x)) (hz : x.length ≤ 16777216) (hk : g.env.kindOf "len" = some .globalImplicit)
    (he : ∀ env, starEach [e] env = (false, eval e env) :: starEach [] env) (hp : ∀ env, (backTo pos (starEach [e] env)).any (·.1) = false) : Ev prog w H0 g g.X (.Call (.Name "len" p) [e] [] pos) (tInt.at (x.length : Int)) :=
  ev_callB (id := "len") (ev_boot W hk nb_len rfl (by decide) rfl) (evs_cons h evs_nil he) (fun s vs E c h => cb_lenL hz h) he hp
theorem ev_translate {g : Γ} {Y1 Y2 : XS} {o e : Expr} {x tab : List UInt8} {apos pos : Pos} (ho : Ev prog w H0 g Y1 o (tBytes.at x)) (h : Ev prog w H0 g Y2 e (tBytes.at tab)) (ht : tab.length = 256) (hz : x.length ≤ 16777216)
    (hbase : attributeBase o "translate" g.env (eval o g.env) = eval o g.env) (hline : (apos.endLine == pos.line) = true)
    (he : ∀ env, starEach [e] env = (false, eval e env) :: starEach [] env) (hp : ∀ env, (backTo pos (starEach [e] env)).any (·.1) = false)
    (hfew : ∀ env, ((backTo pos (starEach [e] env)).all (fun x => !x.1) && (backToKw pos (keywordEach [] env)).all (fun x => x.1.isSome)
      && decide ([e].length + ([] : List Keyword).length + (if ([] : List Keyword).isEmpty then 0 else 1) < 30)) = true) :
    Ev prog w H0 g g.X (.Call (.Attribute o "translate" apos) [e] [] pos) (tBytes.at (trb tab x)) :=
  ev_meth ho ty_nr FB.plainAttrs_bytes slot_bytes_translate type_bytes_translate (evs_cons h evs_nil he) (fun s v vs E c hv h => cb_translate ht hz hv h) hbase hline he hp hfew
theorem ev_joinB {g : Γ} {Y1 Y2 : XS} {o e : Expr} {xs : List (List UInt8)} {apos pos : Pos} (ho : Ev prog w H0 g Y1 o (tBytes.at [])) (h : Ev prog w H0 g Y2 e ((tList tBytes).at xs)) (hz : xs.flatten.length ≤ 16777216)
    (hbase : attributeBase o "join" g.env (eval o g.env) = eval o g.env) (hline : (apos.endLine == pos.line) = true)
    (he : ∀ env, starEach [e] env = (false, eval e env) :: starEach [] env) (hp : ∀ env, (backTo pos (starEach [e] env)).any (·.1) = false)
    (hfew : ∀ env, ((backTo pos (starEach [e] env)).all (fun x => !x.1) && (backToKw pos (keywordEach [] env)).all (fun x => x.1.isSome)
      && decide ([e].length + ([] : List Keyword).length + (if ([] : List Keyword).isEmpty then 0 else 1) < 30)) = true) :
    Ev prog w H0 g g.X (.Call (.Attribute o "join" apos) [e] [] pos) (tBytes.at xs.flatten) :=
  ev_meth ho ty_nr FB.plainAttrs_bytes slot_bytes_join type_bytes_join (evs_cons h evs_nil he) (fun s v vs E c hv h => cb_join hz hv h) hbase hline he hp hfew

def tabE : List UInt8 := mkt [43, 47] [46, 126]
def tabD : List UInt8 := mkt [46, 126] [43, 47]

theorem len_tabE : tabE.length = 256 := by decide +kernel
theorem len_tabD : tabD.length = 256 := by decide +kernel
theorem ev_mkt {g : Γ} {Y2 : XS} {e1 e2 : Expr} {x y : List UInt8} {p apos pos : Pos} (W : W0 (hd.heap_1 w.params) H0) (h1 : Ev prog w H0 g Y2 e1 (tBytes.at x)) (h2 : Ev prog w H0 g Y2 e2 (tBytes.at y)) (hk : g.env.kindOf "bytes" = some .globalImplicit)
    (hl : x.length = y.length) (hz : (mkt x y).length ≤ 16777216) (hbase : attributeBase (.Name "bytes" p) "maketrans" g.env (eval (.Name "bytes" p) g.env) = eval (.Name "bytes" p) g.env) (hline : (apos.endLine == pos.line) = true)
    (he : ∀ env, starEach [e1, e2] env = (false, eval e1 env) :: starEach [e2] env) (he2 : ∀ env, starEach [e2] env = (false, eval e2 env) :: starEach [] env)
    (hfew : ∀ env, ((backTo pos (starEach [e1, e2] env)).all (fun x => !x.1) && (backToKw pos (keywordEach [] env)).all (fun x => x.1.isSome)
      && decide ([e1, e2].length + ([] : List Keyword).length + (if ([] : List Keyword).isEmpty then 0 else 1) < 30)) = true) :
    Ev prog w H0 g g.X (.Call (.Attribute (.Name "bytes" p) "maketrans" apos) [e1, e2] [] pos) (tBytes.at (mkt x y)) :=
  ev_static (id := "bytes.maketrans") W (ev_boot W hk nb_bytes rfl (by decide) rfl) (find_maketrans _) rfl (by decide +kernel) (by decide +kernel) (evs_cons h1 (evs_cons h2 evs_nil he2) he) (fun s vs E c h => cb_maketrans hl hz h) hbase hline he (fun env => by rw [he, he2]; rfl) hfew

theorem fn_b64e (W : W0 (hd.heap_1 w.params) H0) {x : List UInt8} (hx : EncOk x) : Fn prog w H0 108 3 [tBytes.at x] [] (tBytes.at (enc x)) := by
  refine fn_intro (ρ := [("s", tBytes.at x), ("altchars", tNone.at ())]) W rfl rfl ?_ rfl rfl rfl ?_ rfl rfl rfl
  · rintro s X vs kvs wd (_ | ⟨h1, _ | _⟩) (_ | _)
    exact ⟨[("s", _), ("altchars", .none)], binds_K (fun a o e => wd.keep _ _ (W.kin a o e)) rfl rfl rfl rfl rfl, .cons ⟨rfl, h1⟩ (.cons ⟨rfl, rfl⟩ .nil)⟩
  · intro A L X0 X s₀ s hX sx
    refine st_assign sx (ev_call_kw (ev_glob W rfl nm_b2a_base64 rfl) (evs_cons (ev_var rfl rfl rfl) evs_nil fun _ => rfl) ev_bool (fn_b2a W (by have := hx.z; omega) hx.q) (Nat.le_refl _) fun _ => rfl) hTrue_st (.inl rfl) rfl fun s sx => ?_
    refine st_if sx (ts_cmp (ev_var rfl rfl rfl) ev_none (op_isNotNone nn_none) rfl) (fun h => absurd h (by decide)) fun _ s sx => st_nil ?_
    exact st_return sx (ev_var rfl rfl rfl) hX fun v s' => retOk
theorem fn_b64e2 (W : W0 (hd.heap_1 w.params) H0) {x : List UInt8} (hx : EncOk x) : Fn prog w H0 108 3 [tBytes.at x, tBytes.at [46, 126]] [] (tBytes.at (trb tabE (enc x))) := by
  refine fn_intro (ρ := [("s", tBytes.at x), ("altchars", tBytes.at [46, 126])]) W rfl rfl ?_ rfl rfl rfl ?_ rfl rfl rfl
  · rintro s X vs kvs wd (_ | ⟨h1, _ | ⟨h2, _ | _⟩⟩) (_ | _)
    exact ⟨[("s", _), ("altchars", _)], binds_K (fun a o e => wd.keep _ _ (W.kin a o e)) rfl rfl rfl rfl rfl, .cons ⟨rfl, h1⟩ (.cons ⟨rfl, h2⟩ .nil)⟩
  · intro A L X0 X s₀ s hX sx
    refine st_assign sx (ev_call_kw (ev_glob W rfl nm_b2a_base64 rfl) (evs_cons (ev_var rfl rfl rfl) evs_nil fun _ => rfl) ev_bool (fn_b2a W (by have := hx.z; omega) hx.q) (Nat.le_refl _) fun _ => rfl) hTrue_st (.inl rfl) rfl fun s sx => ?_
    refine st_if sx (ts_cmp (ev_var rfl rfl rfl) ev_none (op_isNotNone nn_bytes) rfl) (fun _ s sx => ?_) fun h => absurd h (by decide)
    refine st_assert sx (ts_cmp (ev_lenB W (ev_var rfl rfl rfl) (by decide) rfl (fun _ => rfl) (fun _ => rfl)) ev_int op_eq rfl) fun s sx => ?_
    refine st_return sx (ev_translate (ev_var rfl rfl rfl) (ev_mkt (x := [43, 47]) (y := [46, 126]) W ev_bytes (ev_var rfl rfl rfl) rfl rfl (by decide +kernel) rfl rfl (fun _ => rfl) (fun _ => rfl) (fun _ => rfl)) len_tabE (by have := enc_len hx; unfold enc at this; omega) rfl rfl (fun _ => rfl) (fun _ => rfl) (fun _ => rfl)) hX fun v s' => retOk
theorem fn_b64d (W : W0 (hd.heap_1 w.params) H0) {x : List UInt8} (hx : DecOk x) : Fn prog w H0 116 3 [tBytes.at x] [] (tBytes.at (dec x)) := by
  refine fn_intro (ρ := [("s", tBytes.at x), ("altchars", tNone.at ()), ("validate", tBool.at false)]) W rfl rfl ?_ rfl rfl rfl ?_ rfl rfl rfl
  · rintro s X vs kvs wd (_ | ⟨h1, _ | _⟩) (_ | _)
    exact ⟨[("s", _), ("altchars", .none), ("validate", .bool false)], binds_K (fun a o e => wd.keep _ _ (W.kin a o e)) rfl rfl rfl rfl rfl, .cons ⟨rfl, h1⟩ (.cons ⟨rfl, rfl⟩ (.cons ⟨rfl, rfl⟩ .nil))⟩
  · intro A L X0 X s₀ s hX sx
    refine st_assign sx (ev_call (ev_glob W rfl nm_bytes_from_decode_data rfl) (evs_cons (ev_var rfl rfl rfl) evs_nil fun _ => rfl) (fn_bfdB W) (show 1 ≤ 2 by decide) fun _ => rfl) hTrue_st (.inl rfl) rfl fun s sx => ?_
    refine st_if sx (ts_cmp (ev_var rfl rfl rfl) ev_none (op_isNotNone nn_none) rfl) (fun h => absurd h (by decide)) fun _ s sx => st_nil ?_
    exact st_return sx (ev_call_kw (ev_glob W rfl nm_a2b_base64 rfl) (evs_cons (ev_var rfl rfl rfl) evs_nil fun _ => rfl) (ev_var rfl rfl rfl) (fn_a2b W hx.v hx.z hx.q) (Nat.le_refl _) fun _ => rfl) hX fun v s' => retOk
theorem fn_b64d2 (W : W0 (hd.heap_1 w.params) H0) {x : List UInt8} (hz : x.length ≤ 1000000) (hx : DecOk (trb tabD x)) : Fn prog w H0 116 3 [tBytes.at x, tBytes.at [46, 126]] [] (tBytes.at (dec (trb tabD x))) := by
  refine fn_intro (ρ := [("s", tBytes.at x), ("altchars", tBytes.at [46, 126]), ("validate", tBool.at false)]) W rfl rfl ?_ rfl rfl rfl ?_ rfl rfl rfl
  · rintro s X vs kvs wd (_ | ⟨h1, _ | ⟨h2, _ | _⟩⟩) (_ | _)
    exact ⟨[("s", _), ("altchars", _), ("validate", .bool false)], binds_K (fun a o e => wd.keep _ _ (W.kin a o e)) rfl rfl rfl rfl rfl, .cons ⟨rfl, h1⟩ (.cons ⟨rfl, h2⟩ (.cons ⟨rfl, rfl⟩ .nil))⟩
  · intro A L X0 X s₀ s hX sx
    refine st_assign sx (ev_call (ev_glob W rfl nm_bytes_from_decode_data rfl) (evs_cons (ev_var rfl rfl rfl) evs_nil fun _ => rfl) (fn_bfdB W) (show 1 ≤ 2 by decide) fun _ => rfl) hTrue_st (.inl rfl) rfl fun s sx => ?_
    refine st_join sx [("s", tBytes.at (trb tabD x)), ("validate", tBool.at false)] hTrue ?_ fun s sx => ?_
    · refine st_if sx (ts_cmp (ev_var rfl rfl rfl) ev_none (op_isNotNone nn_bytes) rfl) (fun _ s sx => ?_) fun h => absurd h (by decide)
      refine st_assign sx (ev_call (ev_glob W rfl nm_bytes_from_decode_data rfl) (evs_cons (ev_var rfl rfl rfl) evs_nil fun _ => rfl) (fn_bfdB W) (show 1 ≤ 2 by decide) fun _ => rfl) hTrue_st (.inl rfl) rfl fun s sx => ?_
      refine st_assert sx (ts_cmp (ev_lenB W (ev_var rfl rfl rfl) (by decide) rfl (fun _ => rfl) (fun _ => rfl)) ev_int op_eq rfl) fun s sx => ?_
      refine st_assign sx (ev_translate (ev_var rfl rfl rfl) (ev_mkt (x := [46, 126]) (y := [43, 47]) W (ev_var rfl rfl rfl) ev_bytes rfl rfl (by decide +kernel) rfl rfl (fun _ => rfl) (fun _ => rfl) (fun _ => rfl)) len_tabD (by omega) rfl rfl (fun _ => rfl) (fun _ => rfl) (fun _ => rfl)) hTrue_st (.inl rfl) rfl fun s sx => st_nil (st_nil ⟨rfl, ?_⟩)
      exact sx.sub ⟨rfl, rfl, trivial⟩
    · exact st_return sx (ev_call_kw (ev_glob W rfl nm_a2b_base64 rfl) (evs_cons (ev_var rfl rfl rfl) evs_nil fun _ => rfl) (ev_var rfl rfl rfl) (fn_a2b W hx.v hx.z hx.q) (Nat.le_refl _) fun _ => rfl) hX fun v s' => retOk
theorem fn_stde (W : W0 (hd.heap_1 w.params) H0) {x : List UInt8} (hx : EncOk x) : Fn prog w H0 123 4 [tBytes.at x] [] (tBytes.at (enc x)) := by
  refine fn_intro (ρ := [("s", tBytes.at x)]) W rfl rfl ?_ rfl rfl rfl ?_ rfl rfl rfl
  · rintro s X vs kvs wd (_ | ⟨h1, _ | _⟩) (_ | _)
    exact ⟨[("s", _)], BindsTo.of_eq rfl, .cons ⟨rfl, h1⟩ .nil⟩
  · intro A L X0 X s₀ s hX sx
    exact st_return sx (ev_call (ev_glob W rfl nm_b64encode rfl) (evs_cons (ev_var rfl rfl rfl) evs_nil fun _ => rfl) (fn_b64e W hx) (Nat.le_refl _) fun _ => rfl) hX fun v s' => retOk
theorem fn_stdd (W : W0 (hd.heap_1 w.params) H0) {x : List UInt8} (hx : DecOk x) : Fn prog w H0 130 4 [tBytes.at x] [] (tBytes.at (dec x)) := by
  refine fn_intro (ρ := [("s", tBytes.at x)]) W rfl rfl ?_ rfl rfl rfl ?_ rfl rfl rfl
  · rintro s X vs kvs wd (_ | ⟨h1, _ | _⟩) (_ | _)
    exact ⟨[("s", _)], BindsTo.of_eq rfl, .cons ⟨rfl, h1⟩ .nil⟩
  · intro A L X0 X s₀ s hX sx
    exact st_return sx (ev_call (ev_glob W rfl nm_b64decode rfl) (evs_cons (ev_var rfl rfl rfl) evs_nil fun _ => rfl) (fn_b64d W hx) (Nat.le_refl _) fun _ => rfl) hX fun v s' => retOk
def tabUE : List UInt8 := mkt [43, 47] [45, 95]
def tabUD : List UInt8 := mkt [45, 95] [43, 47]
theorem nm_ue {P : Params} : nsIn (hd.heap_1 P) mainGlobals "_urlsafe_encode_translation" = some (some (.bytes tabUE.toArray 345)) := by kernel_rfl
theorem nm_ud {P : Params} : nsIn (hd.heap_1 P) mainGlobals "_urlsafe_decode_translation" = some (some (.bytes tabUD.toArray 350)) := by kernel_rfl
theorem fn_urle (W : W0 (hd.heap_1 w.params) H0) {x : List UInt8} (hx : EncOk x) : Fn prog w H0 137 4 [tBytes.at x] [] (tBytes.at (trb tabUE (enc x))) := by
  refine fn_intro (ρ := [("s", tBytes.at x)]) W rfl rfl ?_ rfl rfl rfl ?_ rfl rfl rfl
  · rintro s X vs kvs wd (_ | ⟨h1, _ | _⟩) (_ | _)
    exact ⟨[("s", _)], BindsTo.of_eq rfl, .cons ⟨rfl, h1⟩ .nil⟩
  · intro A L X0 X s₀ s hX sx
    exact st_return sx (ev_translate (ev_call (ev_glob W rfl nm_b64encode rfl) (evs_cons (ev_var rfl rfl rfl) evs_nil fun _ => rfl) (fn_b64e W hx) (Nat.le_refl _) fun _ => rfl) (ev_globB W rfl nm_ue rfl fun h => ⟨_, rfl⟩) (by decide +kernel) (by have := enc_len hx; omega) rfl rfl (fun _ => rfl) (fun _ => rfl) (fun _ => rfl)) hX fun v s' => retOk
end
end Mine
end

section
open PySem PySem.W PyProof.Rows
namespace Mine
set_option linter.unusedVariables false
theorem compOk_of {scope : Scope} {env : Env} {x : Str} (h1 : scope.kind = .function) (h2 : decide ((scope.names.map (·.1)).Nodup) = true) (h3 : (scope.names.all fun y => y.2 != .free || (env.cells.lookup y.1).isSome) = true)
    (h4 : (scope.names.all fun y => y.2 != .free || (env.kindOf y.1 == some .cell || env.kindOf y.1 == some .free)) = true) (h5 : scope.names.lookup x = some .local) : CompOk scope env x := ⟨h1, of_decide_eq_true h2, h3, h4, .inl h5⟩
section
variable {prog : Program} {w : World} {H0 : Heap} {Z X0 X : XS} {s₀ s : Shared} {A : Around} {env : Env} {ρ : List (Str × Bd)} {Ω : Hp} {m : Nat} {pos p : Pos} {e : Expr} {b r : Bd} {E : Value → Shared → Prop} {Q : Flow → Shared → Prop} {rest : List Stmt} {α β : Type} {u : Ty β} {g : Γ}
theorem filter_true (xs : List α) : xs.filter (fun _ => true) = xs := List.filter_eq_self.mpr fun _ _ => rfl
/-- a comprehension without tests -/
theorem ev_compA {elt iter : Expr} {x : Str} {px pos : Pos} {scope : Scope} {xs : List α} {bnd : α → Bd} {f : α → β} {b : Bd}
    (hit : Ev prog w H0 g g.X iter b) (hI : Iter prog w H0 g b (xs.map bnd)) (ok : CompOk scope g.env x) (hsz : xs.length ≤ 16777216)
    (hq : ∀ z ∈ xs, ∀ (X' : XS) (C : Addr), (∀ a, g.X a → X' a) → Ev prog w H0 (gC g X' scope C x (bnd z)) X' elt (u.at (f z)))
    (hs : ∀ x, foldedSetIterable iter g.env x = pure x) :
    Ev prog w H0 g g.X (.ListComp elt [⟨.Name x px, iter, [], 0⟩] scope pos) ((tList u).at (xs.map f)) := by
  have := ev_comp (p := fun _ => true) (px := px) (pos := pos) hit hI ok hsz (fun z hz X' C hX => ⟨tsl_nil, fun _ => hq z hz X' C hX⟩) hs
  rwa [filter_true] at this
theorem st_compA {elt iter : Expr} {x y : Str} {px py pos spos : Pos} {scope : Scope} {xs : List α} {bnd : α → Bd} {f : α → β}
    (sx : Sx H0 Z s₀ ⟨A, X, env, ρ, Ω, m⟩ s)
    (hit : Ev prog w H0 ⟨A, X, env, ρ, Ω, m⟩ X iter b) (hI : Iter prog w H0 ⟨A, X, env, ρ, Ω, m⟩ b (xs.map bnd)) (ok : CompOk scope env x) (hsz : xs.length ≤ 16777216)
    (hq : ∀ z ∈ xs, ∀ (X' : XS) (C : Addr), (∀ a, X a → X' a) → Ev prog w H0 (gC ⟨A, X, env, ρ, Ω, m⟩ X' scope C x (bnd z)) X' elt (u.at (f z)))
    (hs : ∀ x, foldedSetIterable iter env x = pure x)
    (hsw : swapsWith (.ListComp elt [⟨.Name x px, iter, [], 0⟩] scope pos) (some (.Name y py)) spos.line env = pure true)
    (hΩ : Ω.StOff (Fa env)) (hk : env.kindOf y = some .local ∨ (env.kindOf y = some .cell ∧ (env.cells.lookup y).isSome = true))
    (k : ∀ s', Sx H0 Z s₀ ⟨A, X, env, (y, (tList u).at (xs.map f)) :: ρ, Ω, m⟩ s' → wpAny (model prog w) A (execs rest env) Q E s') :
    wpAny (model prog w) A (execs (.Assign [.Name y py] (.ListComp elt [⟨.Name x px, iter, [], 0⟩] scope pos) spos :: rest) env) Q E s := by
  refine st_comp (p := fun _ => true) sx hit hI ok hsz (fun z hz X' C hX => ⟨tsl_nil, fun _ => hq z hz X' C hX⟩) hs hsw hΩ hk fun s' sx' => ?_
  rw [filter_true] at sx'
  exact k s' sx'
end
end Mine
end

section
open PySem PySem.W PyProof.Rows
set_option maxRecDepth 100000
namespace Mine
set_option linter.unusedVariables false
set_option linter.unusedSimpArgs false
section
variable {prog : Program} {w : World} {H0 : Heap}
theorem ev_isiS {g : Γ} {Y1 : XS} {K : Frag} (W : W0 K H0) {e1 e2 : Expr} {x : Str} {c : Value} {b : Bool} {p pos : Pos} (h : Ev prog w H0 g Y1 e1 (tStr.at x)) (h2 : Ev prog w H0 g Y1 e2 (bVal c)) (hc : kitOne K (.type "str") c = some b)
    (hk : g.env.kindOf "isinstance" = some .globalImplicit) (hn : nsIn K mainGlobals "isinstance" = some none) (he : ∀ env, starEach [e1, e2] env = (false, eval e1 env) :: starEach [e2] env) (he2 : ∀ env, starEach [e2] env = (false, eval e2 env) :: starEach [] env)
    (hp : ∀ env, (backTo pos (starEach [e1, e2] env)).any (·.1) = false) :
    Ev prog w H0 g g.X (.Call (.Name "isinstance" p) [e1, e2] [] pos) (tBool.at b) := by
  refine ev_callB (id := "isinstance") (ev_boot W hk hn rfl (by decide) rfl) (evs_cons h (evs_cons h2 evs_nil he2) he) ?_ he hp
  rintro s vs E c (_ | ⟨⟨t, rfl⟩, _ | ⟨rfl, _ | _⟩⟩)
  exact kia_one kitx_str (fun a o e => c.wd.keep _ _ (W.kin _ _ e)) trivial hc (by intro h; cases h) fun tk => ⟨Keeps.tok _ _, rfl⟩
theorem ev_encode {g : Γ} {Y1 Y2 : XS} {o e : Expr} {x : List UInt8} {apos pos : Pos} (ho : Ev prog w H0 g Y1 o (tStr.at (strO x))) (h : Ev prog w H0 g Y2 e (tStr.at (Str.ofString "ascii"))) (hx : ∀ c ∈ x, c.toNat < 128) (hz : x.length ≤ 16777216)
    (hbase : attributeBase o "encode" g.env (eval o g.env) = eval o g.env) (hline : (apos.endLine == pos.line) = true)
    (he : ∀ env, starEach [e] env = (false, eval e env) :: starEach [] env) (hp : ∀ env, (backTo pos (starEach [e] env)).any (·.1) = false)
    (hfew : ∀ env, ((backTo pos (starEach [e] env)).all (fun x => !x.1) && (backToKw pos (keywordEach [] env)).all (fun x => x.1.isSome)
      && decide ([e].length + ([] : List Keyword).length + (if ([] : List Keyword).isEmpty then 0 else 1) < 30)) = true) :
    Ev prog w H0 g g.X (.Call (.Attribute o "encode" apos) [e] [] pos) (tBytes.at x) :=
  ev_meth ho ty_nrs F.plainAttrs_str F.slot_str_encode F.type_str_encode (evs_cons h evs_nil he) (fun s v vs E c hv h => cb_encode hx hz hv h) hbase hline he hp hfew
theorem ev_joinS {g : Γ} {Y1 Y2 : XS} {o e : Expr} {x : List UInt8} {apos pos : Pos} (ho : Ev prog w H0 g Y1 o (tStr.at (Str.ofString ""))) (h : Ev prog w H0 g Y2 e ((tList tStr).at (x.map oneS))) (hz : x.length ≤ 500000)
    (hbase : attributeBase o "join" g.env (eval o g.env) = eval o g.env) (hline : (apos.endLine == pos.line) = true)
    (he : ∀ env, starEach [e] env = (false, eval e env) :: starEach [] env) (hp : ∀ env, (backTo pos (starEach [e] env)).any (·.1) = false)
    (hfew : ∀ env, ((backTo pos (starEach [e] env)).all (fun x => !x.1) && (backToKw pos (keywordEach [] env)).all (fun x => x.1.isSome)
      && decide ([e].length + ([] : List Keyword).length + (if ([] : List Keyword).isEmpty then 0 else 1) < 30)) = true) :
    Ev prog w H0 g g.X (.Call (.Attribute o "join" apos) [e] [] pos) (tStr.at (strO x)) :=
  ev_meth ho ty_nrs F.plainAttrs_str F.slot_str_join F.type_str_join (evs_cons h evs_nil he) (fun s v vs E c hv h => cb_sjoin hz hv h) hbase hline he hp hfew

theorem fn_bfdS (W : W0 (hd.heap_1 w.params) H0) {x : List UInt8} (hx : ∀ c ∈ x, c.toNat < 128) (hz : x.length ≤ 16777216) : Fn prog w H0 43 1 [tStr.at (strO x)] [] (tBytes.at x) := by
  refine fn_intro (ρ := [("s", tStr.at (strO x))]) W rfl rfl ?_ rfl rfl rfl ?_ rfl rfl rfl
  · rintro s X vs kvs wd (_ | ⟨h1, _ | _⟩) (_ | _)
    exact ⟨[("s", _)], BindsTo.of_eq rfl, .cons ⟨rfl, h1⟩ .nil⟩
  · intro A L X0 X s₀ s hX sx
    refine st_if (c := true) sx (ts_val (ev_isiS W (ev_var rfl rfl rfl) (ev_boot W rfl nb_str rfl (by decide) rfl) ?_ rfl nb_isinstance (fun _ => rfl) (fun _ => rfl) (fun _ => rfl)) tr_bool fun _ _ => rfl) (fun _ s sx => ?_) fun h => absurd h (by decide)
    · kernel_rfl
    refine wpAny_execs_cons (wpAny_Try_except ?_)
    exact st_return sx (ev_encode (ev_var rfl rfl rfl) ev_str hx hz rfl rfl (fun _ => rfl) (fun _ => rfl) (fun _ => rfl)) hX fun v s' => retOk
theorem fn_urld (W : W0 (hd.heap_1 w.params) H0) {x : List UInt8} (hx : ∀ c ∈ x, c.toNat < 128) (hz : x.length ≤ 16777216) (hd' : DecOk (trb tabUD x)) : Fn prog w H0 144 4 [tStr.at (strO x)] [] (tBytes.at (dec (trb tabUD x))) := by
  refine fn_intro (ρ := [("s", tStr.at (strO x))]) W rfl rfl ?_ rfl rfl rfl ?_ rfl rfl rfl
  · rintro s X vs kvs wd (_ | ⟨h1, _ | _⟩) (_ | _)
    exact ⟨[("s", _)], BindsTo.of_eq rfl, .cons ⟨rfl, h1⟩ .nil⟩
  · intro A L X0 X s₀ s hX sx
    refine st_assign sx (ev_call (ev_glob W rfl nm_bytes_from_decode_data rfl) (evs_cons (ev_var rfl rfl rfl) evs_nil fun _ => rfl) (fn_bfdS W hx hz) (show 1 ≤ 3 by decide) fun _ => rfl) hTrue_st (.inl rfl) rfl fun s sx => ?_
    refine st_assign sx (ev_translate (ev_var rfl rfl rfl) (ev_globB W rfl nm_ud rfl fun h => ⟨_, rfl⟩) (by decide +kernel) (by omega) rfl rfl (fun _ => rfl) (fun _ => rfl) (fun _ => rfl)) hTrue_st (.inl rfl) rfl fun s sx => ?_
    exact st_return sx (ev_call (ev_glob W rfl nm_b64decode rfl) (evs_cons (ev_var rfl rfl rfl) evs_nil fun _ => rfl) (fn_b64d W hd') (Nat.le_refl _) fun _ => rfl) hX fun v s' => retOk
theorem fn_word (W : W0 (hd.heap_1 w.params) H0) {x : List UInt8} (hz : x.length ≤ 500000) : Fn prog w H0 173 1 [tBytes.at x] [] (tStr.at (strO x)) := by
  refine fn_intro (ρ := [("text", tBytes.at x)]) W rfl rfl ?_ rfl rfl rfl ?_ rfl rfl rfl
  · rintro s X vs kvs wd (_ | ⟨h1, _ | _⟩) (_ | _)
    exact ⟨[("text", _)], BindsTo.of_eq rfl, .cons ⟨rfl, h1⟩ .nil⟩
  · intro A L X0 X s₀ s hX sx
    refine st_return sx (ev_joinS (Y2 := X) ev_str ?_ hz rfl rfl (fun _ => rfl) (fun _ => rfl) (fun _ => rfl)) hX fun v s' => retOk
    refine ev_compA (ev_var rfl rfl rfl) iter_bytes (compOk_of rfl rfl rfl rfl rfl) (by omega) (fun z hz X' C hX => ?_) (fun _ => rfl)
    exact ev_callB (id := "chr") (ev_boot W rfl nb_chr rfl (by decide) rfl) (evs_cons (ev_var rfl rfl rfl) evs_nil fun _ => rfl) (fun s vs E c h => cb_chr h) (fun _ => rfl) (fun _ => rfl)
end
end Mine
end

section
open PySem PySem.W PyProof.Rows
namespace Mine
set_option linter.unusedVariables false
section
variable {α : Type}
theorem pick_run (xs : List α) (a : Nat) : ∀ n, ((List.range n).map fun (k : Nat) => a + k).filterMap (xs[·]?) = (xs.drop a).take n
  | 0 => by simp
  | n + 1 => by
    rw [List.range_succ, List.map_append, List.filterMap_append, pick_run xs a n, List.take_add_one]
    congr 1
    simp only [List.map_cons, List.map_nil, List.getElem?_drop]
    cases h : xs[a + n]? <;> simp [h]
theorem sliceRange_one (a b : Nat) : sliceRange (a : Int) (b : Int) 1 = (List.range (b - a)).map fun (k : Nat) => a + k := by
  unfold sliceRange
  have : (if (1 : Int) > 0 then (if (a : Int) < (b : Int) then ((b : Int) - a + 1 - 1) / 1 else 0) else (if (a : Int) > (b : Int) then ((a : Int) - b - 1 - 1) / (-1) else 0)).toNat = b - a := by
    rw [if_pos (by decide)]
    split
    · rw [Int.ediv_one]; omega
    · show (0 : Nat) = _; omega
  simp only [this]
  refine List.map_congr_left fun k _ => ?_
  omega
theorem pickL_plain (xs : List α) (lo hi : Option Int) (a b : Nat) (h : sliceBounds lo hi none xs.length = ((a : Int), (b : Int), 1)) : pickL xs lo hi none = (xs.drop a).take (b - a) := by
  unfold pickL
  rw [h]
  rw [sliceRange_one, pick_run]
theorem bounds_from (n a : Nat) : sliceBounds (some (a : Int)) none none n = (((min a n : Nat) : Int), (n : Int), 1) := by
  unfold sliceBounds
  simp only [Option.getD_none]
  rw [if_pos (by decide : (1 : Int) > 0), if_pos (by decide : (1 : Int) > 0), if_neg (by omega)]
  refine Prod.ext ?_ rfl
  simp only []
  omega
theorem bounds_upto (n b : Nat) : sliceBounds none (some (b : Int)) none n = (((0 : Nat) : Int), ((min b n : Nat) : Int), 1) := by
  unfold sliceBounds
  simp only [Option.getD_none]
  rw [if_pos (by decide : (1 : Int) > 0), if_pos (by decide : (1 : Int) > 0), if_neg (by omega)]
  refine Prod.ext rfl (Prod.ext ?_ rfl)
  simp only []
  omega
theorem bounds_run (n a b : Nat) : sliceBounds (some (a : Int)) (some (b : Int)) none n = (((min a n : Nat) : Int), ((min b n : Nat) : Int), 1) := by
  unfold sliceBounds
  simp only [Option.getD_none]
  rw [if_pos (by decide : (1 : Int) > 0), if_pos (by decide : (1 : Int) > 0), if_neg (by omega), if_neg (by omega)]
  refine Prod.ext ?_ (Prod.ext ?_ rfl)
  · simp only []; omega
  · simp only []; omega
theorem pickL_from (xs : List α) (a : Nat) : pickL xs (some (a : Int)) none none = xs.drop a := by
  rw [pickL_plain xs _ _ _ _ (bounds_from _ a)]
  by_cases h : a ≤ xs.length
  · rw [Nat.min_eq_left h, List.take_of_length_le (by simp)]
  · rw [Nat.min_eq_right (by omega), List.drop_of_length_le (Nat.le_refl _), List.drop_of_length_le (by omega)]; simp
theorem pickL_upto (xs : List α) (b : Nat) : pickL xs none (some (b : Int)) none = xs.take b := by
  rw [pickL_plain xs _ _ _ _ (bounds_upto _ b)]
  simp only [List.drop_zero, Nat.sub_zero]
  by_cases h : b ≤ xs.length
  · rw [Nat.min_eq_left h]
  · rw [Nat.min_eq_right (by omega), List.take_length, List.take_of_length_le (by omega)]
theorem pickL_mem {xs : List α} {lo hi st : Option Int} {x : α} (h : x ∈ pickL xs lo hi st) : x ∈ xs := by
  obtain ⟨i, _, hi⟩ := List.mem_filterMap.mp h
  exact List.mem_of_getElem? hi
theorem pickL_len (xs : List α) (lo hi st : Option Int) : (pickL xs lo hi st).length ≤ (sliceRange (sliceBounds lo hi st xs.length).1 (sliceBounds lo hi st xs.length).2.1 (sliceBounds lo hi st xs.length).2.2).length := List.length_filterMap_le _ _
theorem picked_run (x : List UInt8) (a n : Nat) (h : a ≤ x.length) : (KBy.picked x.toArray (some (a : Int)) (some (((a + n : Nat) : Int)))).toList = (x.drop a).take n := by
  unfold KBy.picked Builtin.Bytes.sliced
  rw [List.size_toArray, bounds_run]
  simp only [sliceRange_one]
  rw [Nat.min_eq_left h]
  have := pick_run x a (min (a + n) x.length - a)
  simp only [List.getElem?_toArray]
  rw [this]
  by_cases h2 : a + n ≤ x.length
  · rw [Nat.min_eq_left h2]; congr 1; omega
  · rw [Nat.min_eq_right (by omega), List.take_of_length_le (by simp), List.take_of_length_le (by simp; omega)]
end
/-- the pieces of a row -/
def cutN (x : List UInt8) (k n : Nat) : List (List UInt8) := (List.range n).map fun i => (x.drop (i * k)).take k
theorem cutN_flat (k : Nat) : ∀ (ps : List (List UInt8)), (∀ p ∈ ps, p.length = k) → cutN ps.flatten k ps.length = ps
  | [], _ => rfl
  | p :: r, h => by
    have hp := h p (by simp)
    have ih := cutN_flat k r fun q hq => h q (by simp [hq])
    unfold cutN at ih ⊢
    rw [List.length_cons, List.range_succ_eq_map, List.map_cons, List.map_map]
    simp only [Nat.zero_mul, List.drop_zero, List.flatten_cons]
    congr 1
    · rw [← hp, List.take_append_of_le_length (by omega), List.take_length]
    · refine Eq.trans (List.map_congr_left (g := fun i => (r.flatten.drop (i * k)).take k) fun i _ => ?_) ih
      show ((p ++ r.flatten).drop ((i + 1) * k)).take k = _
      rw [Nat.succ_mul, ← hp, Nat.add_comm, ← List.drop_drop]
      simp
theorem flat_len (k : Nat) : ∀ (ps : List (List UInt8)), (∀ p ∈ ps, p.length = k) → ps.flatten.length = ps.length * k
  | [], _ => by simp
  | p :: r, h => by
    rw [List.flatten_cons, List.length_append, flat_len k r fun q hq => h q (by simp [hq]), h p (by simp), List.length_cons, Nat.succ_mul]; omega
end Mine
end

section
open PySem PySem.W PyProof.Rows
set_option maxRecDepth 100000
namespace Mine
set_option linter.unusedVariables false
set_option linter.unusedSimpArgs false
theorem rsize (m k : Nat) (hk : 0 < k) : Builtin.Range.rangeSize 0 ((m * k : Nat) : Int) (k : Int) = (m : Int) := by
  unfold Builtin.Range.rangeSize
  rw [if_pos (by omega)]
  rcases Nat.eq_zero_or_pos m with rfl | hm
  · simp
  · have h1 : 0 < m * k := Nat.mul_pos hm hk
    rw [if_pos (by omega)]
    have h2 : (((m * k : Nat) : Int) - 0 - 1) = ((k - 1 : Nat) : Int) + ((m - 1 : Nat) : Int) * (k : Int) := by
      obtain ⟨m, rfl⟩ : ∃ m', m = m' + 1 := ⟨m - 1, by omega⟩
      have : (m + 1) * k = m * k + k := Nat.succ_mul m k
      rw [Nat.add_sub_cancel, ← Int.natCast_mul]
      omega
    rw [h2, Int.add_mul_ediv_right _ _ (by omega), Int.ediv_eq_zero_of_lt (by omega) (by omega)]
    omega
theorem rsmall (m k : Nat) (hk : 0 < k) (hk2 : k ≤ 100) (hz : m * k ≤ 16777216) (hm : m ≤ 16777216) : Builtin.Range.small 0 ((m * k : Nat) : Int) (k : Int) = true := by
  unfold Builtin.Range.small
  rw [rsize m k hk]
  simp only [Builtin.Range.rangeFitsLong, Bool.and_eq_true, Bool.or_eq_true, decide_eq_true_eq, beq_iff_eq, show ((k : Int) > 0) by omega, if_true]
  omega
section
variable {prog : Program} {w : World} {H0 : Heap} {g : Γ} {Y2 Y : XS}
theorem cb_sum {s : Shared} {vs : List Value} {E : Value → Shared → Prop} {ns : List Int} (c : Cx H0 g s) (h : All2 (fun v (b : Bd) => b.rel Y2 s.heap v) vs [(tList tInt).at ns]) :
    wpAny (model prog w) g.A (call (.builtin "sum") vs) (fun v s' => Keeps s s' ∧ (tInt.at ns.sum).rel Y s'.heap v) E s := by
  obtain _ | ⟨⟨a, us, rfl, n, l, r⟩, _ | _⟩ := h
  have hi := ints_all2 r
  obtain ⟨xs, hxs⟩ := hi.allInts.items
  rw [hxs] at l
  refine sum_intListG c.ok.hh l fun h' tk t' hk => ⟨⟨h', tk, rfl, hk⟩, t', ?_⟩
  rw [preSum_eq, List.take_of_length_le (by simp), ← nums_intItems, ← hxs, hi.numsOf]
theorem cb_range1 {s : Shared} {vs : List Value} {E : Value → Shared → Prop} {n : Int} (c : Cx H0 g s) (h : All2 (fun v (b : Bd) => b.rel Y2 s.heap v) vs [tInt.at n]) :
    wpAny (model prog w) g.A (call (.type "range") vs) (fun v s' => Keeps s s' ∧ (bRange 0 n 1).rel g.X s'.heap v) E s := by
  obtain _ | ⟨⟨t, rfl⟩, _ | _⟩ := h
  exact call_range_1 ⟨⟨_, _, rfl, fun b o e => Heap.get?_push_of_some _ e⟩, _, _, _, _, rfl, c.live.fresh, IsRange.new ..⟩
theorem cb_range3 {s : Shared} {vs : List Value} {E : Value → Shared → Prop} {a b k : Int} (hk : k ≠ 0) (hs : k.natAbs < 1073741824) (c : Cx H0 g s) (h : All2 (fun v (b : Bd) => b.rel Y2 s.heap v) vs [tInt.at a, tInt.at b, tInt.at k]) :
    wpAny (model prog w) g.A (call (.type "range") vs) (fun v s' => Keeps s s' ∧ (bRange a b k).rel g.X s'.heap v) E s := by
  obtain _ | ⟨⟨t, rfl⟩, _ | ⟨⟨u, rfl⟩, _ | ⟨⟨v, rfl⟩, _ | _⟩⟩⟩ := h
  exact call_range_3 hk ⟨⟨_, _, rfl, fun b o e => Heap.get?_push_of_some _ e⟩, _, _, _, _, rfl, c.live.fresh, IsRange.new ..⟩ (.inl (PyProof.noPylong_small hs))
theorem ev_range1 (W : W0 (hd.heap_1 w.params) H0) {e : Expr} {n : Int} {p pos : Pos} (h : Ev prog w H0 g Y e (tInt.at n)) (hk : g.env.kindOf "range" = some .globalImplicit)
    (he : ∀ env, starEach [e] env = (false, eval e env) :: starEach [] env) (hp : ∀ env, (backTo pos (starEach [e] env)).any (·.1) = false) : Ev prog w H0 g g.X (.Call (.Name "range" p) [e] [] pos) (bRange 0 n 1) :=
  ev_callT (T := "range") (ev_boot W hk nb_range rfl (by decide) rfl) (evs_cons h evs_nil he) (fun s vs E c h => cb_range1 c h) he hp
theorem ev_sum (W : W0 (hd.heap_1 w.params) H0) {e : Expr} {ns : List Int} {p pos : Pos} (h : Ev prog w H0 g Y e ((tList tInt).at ns)) (hk : g.env.kindOf "sum" = some .globalImplicit)
    (he : ∀ env, starEach [e] env = (false, eval e env) :: starEach [] env) (hp : ∀ env, (backTo pos (starEach [e] env)).any (·.1) = false) : Ev prog w H0 g g.X (.Call (.Name "sum" p) [e] [] pos) (tInt.at ns.sum) :=
  ev_callB (id := "sum") (ev_boot W hk nb_sum rfl (by decide) rfl) (evs_cons h evs_nil he) (fun s vs E c h => cb_sum c h) he hp
theorem iter_range1 {n : Nat} (hn : n ≤ 16777216) : Iter prog w H0 g (bRange 0 (n : Int) 1) ((List.range n).map fun (i : Nat) => tInt.at (i : Int)) := by
  have := @iter_range prog w H0 g 0 (n : Int) 1 ?_ n ?_
  · simpa using this
  · have := rsmall n 1 (by omega) (by omega) (by omega) hn; simpa using this
  · have := rsize n 1 (by omega); simpa using this
end

/-- the four writings of a row -/
def wr (k : Nat) (x : List UInt8) : List UInt8 := if k % 3 = 0 then enc x else if k % 3 = 1 then trb tabUE (enc x) else trb tabE (enc x)
def rd (k : Nat) (x : List UInt8) : List UInt8 := if k % 3 = 0 then dec x else if k % 3 = 1 then dec (trb tabUD x) else dec (trb tabD x)
structure RdOk (k : Nat) (x : List UInt8) : Prop where
  z : x.length ≤ 500000
  a : ∀ c ∈ x, c.toNat < 128
  o0 : k % 3 = 0 → DecOk x
  o1 : k % 3 = 1 → DecOk (trb tabUD x)
  o2 : k % 3 = 2 → DecOk (trb tabD x)
theorem fmod3 (k : Nat) (j : Int) : decide (((k : Int).fmod 3) = j) = decide (((k % 3 : Nat) : Int) = j) := by
  rw [fmod_eq _ _ (by decide)]; rfl
section
variable {prog : Program} {w : World} {H0 : Heap}
theorem fn_write (W : W0 (hd.heap_1 w.params) H0) {k : Nat} {x : List UInt8} (hx : EncOk x) : Fn prog w H0 168 5 [tInt.at (k : Int), tBytes.at x] [] (tBytes.at (wr k x)) := by
  refine fn_intro (ρ := [("k", tInt.at (k : Int)), ("row", tBytes.at x)]) W rfl rfl ?_ rfl rfl rfl ?_ rfl rfl rfl
  · rintro s X vs kvs wd (_ | ⟨h1, _ | ⟨h2, _ | _⟩⟩) (_ | _)
    exact ⟨[("k", _), ("row", _)], BindsTo.of_eq rfl, .cons ⟨rfl, h1⟩ (.cons ⟨rfl, h2⟩ .nil)⟩
  · intro A L X0 X s₀ s hX sx
    refine st_if sx (ts_cmp (ev_bin (ev_var rfl rfl rfl) ev_int (op_mod (by decide))) ev_int op_eq rfl) (fun h s sx => ?_) fun h1 s sx => st_nil ?_
    · rw [fmod3] at h
      have h := of_decide_eq_true h
      refine st_return sx ((ev_call (ev_glob W rfl nm_standard_b64encode rfl) (evs_cons (ev_var rfl rfl rfl) evs_nil fun _ => rfl) (fn_stde W hx) (Nat.le_refl _) fun _ => rfl).cast ?_) hX fun v s' => retOk
      rw [wr, if_pos (by omega)]
    rw [fmod3] at h1
    have h1 := of_decide_eq_false h1
    refine st_if sx (ts_cmp (ev_bin (ev_var rfl rfl rfl) ev_int (op_mod (by decide))) ev_int op_eq rfl) (fun h s sx => ?_) fun h2 s sx => st_nil ?_
    · rw [fmod3] at h
      have h := of_decide_eq_true h
      refine st_return sx ((ev_call (ev_glob W rfl nm_urlsafe_b64encode rfl) (evs_cons (ev_var rfl rfl rfl) evs_nil fun _ => rfl) (fn_urle W hx) (Nat.le_refl _) fun _ => rfl).cast ?_) hX fun v s' => retOk
      rw [wr, if_neg (by omega), if_pos (by omega)]
    rw [fmod3] at h2
    have h2 := of_decide_eq_false h2
    refine st_return sx ((ev_call (ev_glob W rfl nm_b64encode rfl) (evs_cons (ev_var rfl rfl rfl) (evs_cons ev_bytes evs_nil fun _ => rfl) fun _ => rfl) (fn_b64e2 W hx) (show 3 ≤ 4 by decide) fun _ => rfl).cast ?_) hX fun v s' => retOk
    rw [wr, if_neg (by omega), if_neg (by omega)]
theorem fn_read (W : W0 (hd.heap_1 w.params) H0) {k : Nat} {x : List UInt8} (hx : RdOk k x) : Fn prog w H0 180 5 [tInt.at (k : Int), tBytes.at x] [] (tBytes.at (rd k x)) := by
  refine fn_intro (ρ := [("k", tInt.at (k : Int)), ("text", tBytes.at x)]) W rfl rfl ?_ rfl rfl rfl ?_ rfl rfl rfl
  · rintro s X vs kvs wd (_ | ⟨h1, _ | ⟨h2, _ | _⟩⟩) (_ | _)
    exact ⟨[("k", _), ("text", _)], BindsTo.of_eq rfl, .cons ⟨rfl, h1⟩ (.cons ⟨rfl, h2⟩ .nil)⟩
  · intro A L X0 X s₀ s hX sx
    have hz := hx.z
    refine st_if sx (ts_cmp (ev_bin (ev_var rfl rfl rfl) ev_int (op_mod (by decide))) ev_int op_eq rfl) (fun h s sx => ?_) fun h1 s sx => st_nil ?_
    · rw [fmod3] at h
      have h := of_decide_eq_true h
      refine st_return sx ((ev_call (ev_glob W rfl nm_standard_b64decode rfl) (evs_cons (ev_var rfl rfl rfl) evs_nil fun _ => rfl) (fn_stdd W (hx.o0 (by omega))) (Nat.le_refl _) fun _ => rfl).cast ?_) hX fun v s' => retOk
      rw [rd, if_pos (by omega)]
    rw [fmod3] at h1
    have h1 := of_decide_eq_false h1
    refine st_if sx (ts_cmp (ev_bin (ev_var rfl rfl rfl) ev_int (op_mod (by decide))) ev_int op_eq rfl) (fun h s sx => ?_) fun h2 s sx => st_nil ?_
    · rw [fmod3] at h
      have h := of_decide_eq_true h
      refine st_return sx ((ev_call (ev_glob W rfl nm_urlsafe_b64decode rfl) (evs_cons (ev_call (ev_glob W rfl nm_law_word rfl) (evs_cons (ev_var rfl rfl rfl) evs_nil fun _ => rfl) (fn_word W hx.z) (show 1 ≤ 4 by decide) fun _ => rfl) evs_nil fun _ => rfl) (fn_urld W hx.a (by omega) (hx.o1 (by omega))) (Nat.le_refl _) fun _ => rfl).cast ?_) hX fun v s' => retOk
      rw [rd, if_neg (by omega), if_pos (by omega)]
    rw [fmod3] at h2
    have h2 := of_decide_eq_false h2
    refine st_return sx ((ev_call (ev_glob W rfl nm_b64decode rfl) (evs_cons (ev_var rfl rfl rfl) (evs_cons ev_bytes evs_nil fun _ => rfl) fun _ => rfl) (fn_b64d2 W (by omega) (hx.o2 (by omega))) (show 3 ≤ 4 by decide) fun _ => rfl).cast ?_) hX fun v s' => retOk
    rw [rd, if_neg (by omega), if_neg (by omega)]
theorem fn_cut (W : W0 (hd.heap_1 w.params) H0) {k : Nat} {ps : List (List UInt8)} (hk : 0 < k) (hk2 : k ≤ 100) (hp : ∀ p ∈ ps, p.length = k) (hz : ps.length ≤ 100000) : Fn prog w H0 185 1 [tBytes.at ps.flatten, tInt.at (k : Int)] [] ((tList tBytes).at ps) := by
  have hfl := flat_len k ps hp
  have hfz : ps.length * k ≤ 100000 * 100 := Nat.mul_le_mul hz hk2
  refine fn_intro (ρ := [("row", tBytes.at ps.flatten), ("size", tInt.at (k : Int))]) W rfl rfl ?_ rfl rfl rfl ?_ rfl rfl rfl
  · rintro s X vs kvs wd (_ | ⟨h1, _ | ⟨h2, _ | _⟩⟩) (_ | _)
    exact ⟨[("row", _), ("size", _)], BindsTo.of_eq rfl, .cons ⟨rfl, h1⟩ (.cons ⟨rfl, h2⟩ .nil)⟩
  · intro A L X0 X s₀ s hX sx
    refine st_return sx ((ev_compA (u := tBytes) (f := fun i => (ps.flatten.drop (i * k)).take k)
      (ev_callT (T := "range") (ev_boot W rfl nb_range rfl (by decide) rfl) (evs_cons ev_int (evs_cons (ev_lenB W (ev_var rfl rfl rfl) (by omega) rfl (fun _ => rfl) (fun _ => rfl)) (evs_cons (ev_var rfl rfl rfl) evs_nil fun _ => rfl) fun _ => rfl) fun _ => rfl) (fun s vs E c h => cb_range3 (by omega) (by omega) c h) (fun _ => rfl) (fun _ => rfl))
      (iter_range (n := ps.length) ?_ ?_) (compOk_of rfl rfl rfl rfl rfl) (by simp; omega) (fun i hi X' C hX => ?_) (fun _ => rfl)).cast ?_) hX fun v s' => retOk
    · rw [hfl]; exact rsmall _ _ hk hk2 (by omega) (by omega)
    · rw [hfl]; exact rsize _ _ hk
    · refine (ev_sliceB (ev_var rfl rfl rfl) (evP_some (ev_var rfl rfl rfl)) (evP_some (ev_bin (ev_var rfl rfl rfl) (ev_var rfl rfl rfl) op_add)) (by omega) (fun _ _ => rfl)).cast ?_
      have hi' : i < ps.length := by simpa using hi
      have h1 : i * k ≤ ps.length * k := Nat.mul_le_mul_right k (by omega)
      have := picked_run ps.flatten (i * k) k (by omega)
      rw [← this]
      congr 3
      · congr 1
        rw [Int.natCast_mul]; omega
      · congr 1
        rw [Int.natCast_add, Int.natCast_mul]; omega
    · exact congrArg (tList tBytes).at (cutN_flat k ps hp)
end
end Mine
end

section
open PySem PySem.W PyProof.Rows
set_option maxRecDepth 100000
namespace Mine
set_option linter.unusedVariables false
set_option linter.unusedSimpArgs false
def sig62 : List UInt8 := [65, 66, 67, 68, 69, 70, 71, 72, 73, 74, 75, 76, 77, 78, 79, 80, 81, 82, 83, 84, 85, 86, 87, 88, 89, 90, 97, 98, 99, 100, 101, 102, 103, 104, 105, 106, 107, 108, 109, 110, 111, 112, 113, 114, 115, 116, 117, 118, 119, 120, 121, 122, 48, 49, 50, 51, 52, 53, 54, 55, 56, 57]
abbrev Pk := Nat × Nat × Nat
def PkOk (p : Pk) : Prop := p.1 < 256 ∧ p.2.1 < 256 ∧ p.2.2 < 256
def pk (p : Pk) : List UInt8 := [p.1.toUInt8, p.2.1.toUInt8, p.2.2.toUInt8]
def quad (last : List UInt8) (p : Pk) : List UInt8 := (qv p).map fun i => (sig62 ++ last).getD i.toNat 0
theorem qv_in {p : Pk} (h : PkOk p) : ∀ i ∈ qv p, 0 ≤ i ∧ i < 64 := by
  obtain ⟨a, b, c⟩ := p
  obtain ⟨h1, h2, h3⟩ := h
  simp only at h1 h2 h3
  intro i hi
  simp only [qv, List.mem_cons, List.not_mem_nil, or_false] at hi
  omega
section
variable {prog : Program} {w : World} {H0 : Heap}
theorem fn_quad (W : W0 (hd.heap_1 w.params) H0) {p : Pk} {last : List UInt8} (hp : PkOk p) (hl : last.length = 2) : Fn prog w H0 161 1 [tBytes.at (pk p), tBytes.at last] [] (tBytes.at (quad last p)) := by
  obtain ⟨a, b, c⟩ := p
  have hq := qv_in hp
  obtain ⟨h1, h2, h3⟩ := hp
  simp only at h1 h2 h3
  refine fn_intro (ρ := [("packet", tBytes.at (pk (a, b, c))), ("last", tBytes.at last)]) W rfl rfl ?_ rfl rfl rfl ?_ rfl rfl rfl
  · rintro s X vs kvs wd (_ | ⟨h1, _ | ⟨h2, _ | _⟩⟩) (_ | _)
    exact ⟨[("packet", _), ("last", _)], BindsTo.of_eq rfl, .cons ⟨rfl, h1⟩ (.cons ⟨rfl, h2⟩ .nil)⟩
  · intro A L X0 X s₀ s hX sx
    have hs : (sig62 ++ last).length = 64 := by rw [List.length_append, hl]; rfl
    refine st_assign sx (ev_bin ev_bytes (ev_var rfl rfl rfl) (op_addBytes (by rw [hl]; decide))) hTrue_st (.inl rfl) rfl fun s sx => ?_
    change Sx H0 nX s₀ ⟨A, X, _, ("signs", tBytes.at (sig62 ++ last)) :: _, _, _⟩ s at sx
    refine st_assign (b := tInt.at ((a : Int) * 65536 + (b : Int) * 256 + (c : Int))) sx ((ev_bin (ev_bin (ev_bin (ev_itemB (xs := pk (a, b, c)) (ev_var rfl rfl rfl) ev_int (by decide) (by show (0 : Int) < 3; decide) (by show (3 : Nat) ≤ _; decide) (fun _ _ => rfl) (fun _ _ => rfl)) ev_int (op_mul (.of_right (by decide))))
      (ev_bin (ev_itemB (xs := pk (a, b, c)) (ev_var rfl rfl rfl) ev_int (by decide) (by show (1 : Int) < 3; decide) (by show (3 : Nat) ≤ _; decide) (fun _ _ => rfl) (fun _ _ => rfl)) ev_int (op_mul (.of_right (by decide)))) op_add)
      (ev_itemB (xs := pk (a, b, c)) (ev_var rfl rfl rfl) ev_int (by decide) (by show (2 : Int) < 3; decide) (by show (3 : Nat) ≤ _; decide) (fun _ _ => rfl) (fun _ _ => rfl)) op_add).cast ?_) hTrue_st (.inl rfl) rfl fun s sx => ?_
    · show tInt.at (((a.toUInt8.toNat : Nat) : Int) * 65536 + ((b.toUInt8.toNat : Nat) : Int) * 256 + ((c.toUInt8.toNat : Nat) : Int)) = _
      rw [show a.toUInt8.toNat = a from by simp; omega, show b.toUInt8.toNat = b from by simp; omega, show c.toUInt8.toNat = c from by simp; omega]
    have iB : ∀ {e : Expr} {pos p : Pos} {i : Int} {g : Γ}, g.ρ.lookup ("signs" : Str) = some (tBytes.at (sig62 ++ last)) → Ev prog w H0 g g.X e (tInt.at i) → 0 ≤ i → i < 64 → (∀ o i, subscripted e false o i = operate [o, i] (getItem o i)) →
        Ev prog w H0 g g.X (.Subscript (.Name "signs" p) e pos) (tInt.at (((sig62 ++ last).getD i.toNat 0).toNat : Int)) := fun hg h h0 h1 hs' =>
      ev_itemB (ev_var hg rfl rfl) h h0 (by rw [hs]; exact h1) (by rw [hs]; decide) hs' (fun _ _ => rfl)
    refine st_return sx (ev_callT (r := tBytes.at (quad last (a, b, c))) (ev_boot W rfl nb_bytes rfl (by decide) rfl) (evs_cons (ev_listT (t := tInt) (xs := (qv (a, b, c)).map fun i => (((sig62 ++ last).getD i.toNat 0).toNat : Int)) ?_ (by show (4 : Nat) ≤ _; decide)) evs_nil fun _ => rfl) (fun s vs E cx h => ?_) (fun _ => rfl) (fun _ => rfl)) hX fun v s' => retOk
    · have q1 := hq (((a : Int) * 65536 + (b : Int) * 256 + (c : Int)) / 262144) (by simp [qv])
      have q2 := hq (((a : Int) * 65536 + (b : Int) * 256 + (c : Int)) / 4096 % 64) (by simp [qv])
      have q3 := hq (((a : Int) * 65536 + (b : Int) * 256 + (c : Int)) / 64 % 64) (by simp [qv])
      have q4 := hq (((a : Int) * 65536 + (b : Int) * 256 + (c : Int)) % 64) (by simp [qv])
      refine evs_cons (iB rfl ((ev_bin (ev_var rfl rfl rfl) ev_int (op_div (by decide) (by decide))).cast (congrArg tInt.at (fdiv_eq _ _ (by decide)))) q1.1 q1.2 (fun _ _ => rfl)) ?_ fun _ => rfl
      refine evs_cons (iB rfl ((ev_bin (ev_bin (ev_var rfl rfl rfl) ev_int (op_div (by decide) (by decide))) ev_int (op_mod (by decide))).cast (congrArg tInt.at ((fmod_eq _ _ (by decide)).trans (congrArg (· % (64 : Int)) (fdiv_eq _ _ (by decide)))))) q2.1 q2.2 (fun _ _ => rfl)) ?_ fun _ => rfl
      refine evs_cons (iB rfl ((ev_bin (ev_bin (ev_var rfl rfl rfl) ev_int (op_div (by decide) (by decide))) ev_int (op_mod (by decide))).cast (congrArg tInt.at ((fmod_eq _ _ (by decide)).trans (congrArg (· % (64 : Int)) (fdiv_eq _ _ (by decide)))))) q3.1 q3.2 (fun _ _ => rfl)) ?_ fun _ => rfl
      exact evs_cons (iB rfl ((ev_bin (ev_var rfl rfl rfl) ev_int (op_mod (by decide))).cast (congrArg tInt.at (fmod_eq _ _ (by decide)))) q4.1 q4.2 (fun _ _ => rfl)) evs_nil fun _ => rfl
    · have := cb_bytes (prog := prog) (w := w) (E := E) (Y := X) cx (fun n hn => ?_) (by show (4 : Nat) ≤ _; decide) h
      · refine wpAny_mono this (fun v s' q => ⟨q.1, ?_⟩) fun _ _ e => e
        have e2 : (((qv (a, b, c)).map fun i => (((sig62 ++ last).getD i.toNat 0).toNat : Int)).map fun n => n.toNat.toUInt8) = quad last (a, b, c) := by
          rw [List.map_map]; unfold quad
          refine List.map_congr_left fun i _ => ?_
          simp
        rw [← e2]; exact q.2
      · obtain ⟨i, _, rfl⟩ := List.mem_map.mp hn
        have := ((sig62 ++ last).getD i.toNat 0).toNat_lt
        omega
end
end Mine
end

section
open PySem PySem.W PyProof.Rows
set_option maxRecDepth 100000
namespace Mine
set_option linter.unusedVariables false
set_option linter.unusedSimpArgs false
def firstsL : List Int := [255, 62, 190, 3, 251, 128]
def fixedL : List Int := [48829, 700, 65215, 0, 61374, 5]
def mr (ns : List Int) (i : Nat) : Int := fixedL.getD i 0 + ((pickL ns (some (i : Int)) none (some 6)).map fun x => x.fdiv 1024).sum
def pkt (ns : List Int) (i : Nat) : Pk := ((firstsL.getD i 0).toNat, (mr ns i / 256 % 256).toNat, (mr ns i % 256).toNat)
theorem pkt_ok (ns : List Int) (i : Nat) : PkOk (pkt ns i) := by
  refine ⟨?_, ?_, ?_⟩
  · show (firstsL.getD i 0).toNat < 256
    by_cases h : i < 6
    · have : ∀ i, i < 6 → (firstsL.getD i 0).toNat < 256 := by decide
      exact this i h
    · have : firstsL.getD i 0 = 0 := by simp [firstsL, List.getD]; rw [List.getElem?_eq_none (by simp; omega)]; rfl
      rw [this]; decide
  · show (mr ns i / 256 % 256).toNat < 256; omega
  · show (mr ns i % 256).toNat < 256; omega
theorem pickL_le {α : Type} (xs : List α) (lo hi st : Option Int) : (pickL xs lo hi st).length ≤ xs.length := by
  have h : All2 (fun (_ : Value) (_ : α) => True) (xs.map fun _ => Value.none) xs := by
    induction xs with
    | nil => exact .nil
    | cons x xs ih => exact .cons trivial ih
  have h2 := (slicePick_all2 h lo hi st).length
  have h3 := slicePick_size_le (xs.map fun _ => Value.none).toArray lo hi st
  rw [← h2]
  simpa using h3
section
variable {prog : Program} {w : World} {H0 : Heap}
theorem fn_packets (W : W0 (hd.heap_1 w.params) H0) {ns : List Int} (hn : ns.length ≤ 1000) : Fn prog w H0 149 1 [(tList tInt).at ns] [] ((tList tBytes).at ((List.range 6).map fun i => pk (pkt ns i))) := by
  refine fn_intro (ρ := [("numbers", (tList tInt).at ns)]) W rfl rfl ?_ rfl rfl rfl ?_ rfl rfl rfl
  · rintro s X vs kvs wd (_ | ⟨h1, _ | _⟩) (_ | _)
    exact ⟨[("numbers", _)], BindsTo.of_eq rfl, .cons ⟨rfl, h1⟩ .nil⟩
  · intro A L X0 X s₀ s hX sx
    refine st_assign sx (ev_listT (t := tInt) (xs := firstsL) (evs_cons ev_int (evs_cons ev_int (evs_cons ev_int (evs_cons ev_int (evs_cons ev_int (evs_cons ev_int evs_nil fun _ => rfl) fun _ => rfl) fun _ => rfl) fun _ => rfl) fun _ => rfl) fun _ => rfl) (by decide)) hTrue_st (.inl rfl) rfl fun s sx => ?_
    refine st_assign sx (ev_listT (t := tInt) (xs := fixedL) (evs_cons ev_int (evs_cons ev_int (evs_cons ev_int (evs_cons ev_int (evs_cons ev_int (evs_cons ev_int evs_nil fun _ => rfl) fun _ => rfl) fun _ => rfl) fun _ => rfl) fun _ => rfl) fun _ => rfl) (by decide)) hTrue_st (.inl rfl) rfl fun s sx => ?_
    have lv := sx.cx.live
    refine st_newlist tBytes sx (.inl rfl) fun D s fD0 fD sx nF => ?_
    have offF : ∀ {ys : List (List UInt8)} {X' : XS}, (∀ a, Fa _ a → X' a) → (hList X' tBytes D ys).StOff (Fa _) := fun h => hList_off nF h
    have faX : ∀ a, Fa _ a → (xI X D) a := fun a fa => sx.cx.fr.fa_x fa
    refine st_for sx (ev_range1 W ev_int rfl (fun _ => rfl) (fun _ => rfl)) (iter_range1 (n := 6) (by decide))
      (fun i => [("packets", bVal (.ref D)), ("fixed", (tList tInt).at fixedL), ("firsts", (tList tInt).at firstsL), ("numbers", (tList tInt).at ns)])
      (fun I i => hList (xI (xI X D) I) tBytes D ((List.range i).map fun i => pk (pkt ns i))) (fun a => a = D) ?_ ?_ ?_ ?_ ?_ ?_ (.inl rfl) ?_ ?_ (fun _ => rfl) rfl
    · exact SubM.get ⟨rfl, rfl, rfl, rfl, trivial⟩
    · intro I h hI om
      exact hList_widen om fun b o n e q => q.elim n fun q => by rw [q, hI] at e; cases e
    · exact fun I i => offF fun a fa => .inl (faX a fa)
    · exact fun I i => hList_it (.inr rfl)
    · rintro a rfl; exact .inr rfl
    · rintro a rfl; exact .inr (fD.resolve_right id)
    · intro i bi I s₁ s' hbi sx
      rw [List.getElem?_map] at hbi
      obtain ⟨j, hj, rfl⟩ := Option.map_eq_some_iff.mp hbi
      obtain ⟨hi, hj⟩ := List.getElem?_eq_some_iff.mp hj
      rw [List.getElem_range] at hj
      subst hj
      rw [List.length_range] at hi
      have F1 : ∀ {ys : List (List UInt8)}, (hList (xI (xI X D) I) tBytes D ys).StOff (Fa _) := offF fun a fa => .inl (faX a fa)
      have hg : ∀ (l : List Int), l.length = 6 → l[(i : Int).toNat]? = some (l.getD i 0) := fun l hl => by
        rw [Int.toNat_natCast, List.getD_eq_getElem?_getD, List.getElem?_eq_getElem (by omega)]; rfl
      refine st_assign (b := tInt.at (mr ns i)) sx (ev_bin (ev_itemL (x := fixedL.getD i 0) (ev_var rfl rfl rfl) (ev_var rfl rfl rfl) (by omega) (by omega) (hg _ rfl) (fun _ _ => rfl) (fun _ _ => rfl))
        (ev_sum (Y := _) W (ev_compA (u := tInt) (f := fun x : Int => x.fdiv 1024) (ev_sliceL3 (ev_var rfl rfl rfl) (evP_some (ev_var rfl rfl rfl)) evP_none (evP_some ev_int) (by decide) (by omega) (fun _ _ => rfl)) iter_list (compOk_of rfl rfl rfl rfl rfl) ?_ (fun z hz X' C hX' => ev_bin (ev_var rfl rfl rfl) ev_int (op_div (by decide) (by decide))) (fun _ => rfl)) rfl (fun _ => rfl) (fun _ => rfl)) op_add) F1 (.inl rfl) rfl fun s sx => ?_
      · exact Nat.le_trans (pickL_le _ _ _ _) (by omega)
      · refine st_append sx rfl rfl rfl (y := pk (pkt ns i)) (ev_callT (r := tBytes.at (pk (pkt ns i))) (ev_boot W rfl nb_bytes rfl (by decide) rfl)
          (evs_cons (ev_listT (t := tInt) (xs := [firstsL.getD i 0, (mr ns i) / 256 % 256, mr ns i % 256])
            (evs_cons (ev_itemL (x := firstsL.getD i 0) (ev_var rfl rfl rfl) (ev_var rfl rfl rfl) (by omega) (by omega) (hg _ rfl) (fun _ _ => rfl) (fun _ _ => rfl))
              (evs_cons ((ev_bin (ev_bin (ev_var rfl rfl rfl) ev_int (op_div (by decide) (by decide))) ev_int (op_mod (by decide))).cast (congrArg tInt.at ((fmod_eq _ _ (by decide)).trans (congrArg (· % (256 : Int)) (fdiv_eq _ _ (by decide))))))
                (evs_cons ((ev_bin (ev_var rfl rfl rfl) ev_int (op_mod (by decide))).cast (congrArg tInt.at (fmod_eq _ _ (by decide)))) evs_nil fun _ => rfl) fun _ => rfl) fun _ => rfl) (by simp)) evs_nil fun _ => rfl)
          (fun s vs E cx h => ?_) (fun _ => rfl) (fun _ => rfl))
          (.inl (.inr rfl)) nF (.inl (.inr rfl)) (by simp; omega) (fun _ => rfl) rfl rfl rfl fun s sx => st_nil ⟨.inl rfl, ?_⟩
        · refine wpAny_mono (cb_bytes cx (fun n hn => ?_) (by simp) h) (fun v s' q => ⟨q.1, q.2⟩) fun _ _ e => e
          simp only [List.mem_cons, List.not_mem_nil, or_false] at hn
          have hf : ∀ i, i < 6 → 0 ≤ firstsL.getD i 0 ∧ firstsL.getD i 0 < 256 := by decide
          rcases hn with rfl | rfl | rfl
          · exact hf i hi
          · omega
          · omega
        · rw [List.range_succ, List.map_append]
          exact sx.sub ⟨rfl, rfl, rfl, rfl, trivial⟩
    · intro I s sx
      have hL : ((List.range 6).map fun (i : Nat) => tInt.at (i : Int)).length = 6 := by simp
      rw [hL] at sx
      exact st_returnY sx (ev_own rfl rfl rfl rfl) (fun a q => ⟨.inl (.inl (hX a q)), fun e => by subst e; exact lv.none fD0 (hX _ q)⟩) fun v s' => retOk
end
end Mine
end

section
open PySem PySem.W PyProof.Rows
namespace Mine
set_option linter.unusedVariables false
section
variable {prog : Program} {w : World} {H0 : Heap} {Z X0 X : XS} {s₀ s : Shared} {A : Around} {env : Env} {ρ : List (Str × Bd)} {Ω : Hp} {m : Nat} {pos p : Pos} {e : Expr} {b r : Bd} {E : Value → Shared → Prop} {Q : Flow → Shared → Prop} {rest : List Stmt} {α β : Type} {t : Ty α} {u : Ty β} {g : Γ}
theorem op_addL {xs ys : List α} (hz : xs.length + ys.length ≤ 16777216) : OpOk prog w H0 g (binaryOp .Add) g.X ((tList t).at xs) g.X ((tList t).at ys) g.X ((tList t).at (xs ++ ys)) := by
  rintro s v1 v2 E c ⟨a1, vs, rfl, n1, l1, r1⟩ ⟨a2, ws, rfl, n2, l2, r2⟩
  obtain ⟨⟨cls, dd, data, sl⟩, ho, hc, n, hd⟩ := id l1
  obtain ⟨⟨cls2, dd2, data2, sl2⟩, ho2, hc2, n2, hd2⟩ := id l2
  simp only at hc hd hc2 hd2
  subst hc hd hc2 hd2
  have e : vs.toArray ++ ws.toArray = (vs ++ ws).toArray := by simp
  have q1 := r1.length
  have q2 := r2.length
  refine concat_meets ⟨_, ho, rfl⟩ ⟨_, ho2, rfl⟩ noFill_list_add seq_list_add PySem.F.slot_list_add PySem.F.entry_list_add (PySem.F.args_list_add_2 _ _) (list_addW a1 a2 vs.toArray ws.toArray n n2 dd dd2 sl sl2 (by rw [sizeLine_eq]; simp; omega)) ⟨ho, ho2, ?_⟩
  rw [e]
  exact ⟨Keeps.push _ _, newList_rel c (r1.append r2)⟩
theorem ev_neg {Y : XS} {i : Int} (h : Ev prog w H0 g Y e (tInt.at i)) : Ev prog w H0 g g.X (.UnaryOp .USub e pos) (tInt.at (-i)) := fun s c E =>
  UnaryOp_ (h.use c fun v s' k c' r => by obtain ⟨t, rfl⟩ := r; exact neg_int ⟨k.trans (Keeps.tok _ _), _, rfl⟩)
/-- the own list laid open -/
theorem Sx.publish {X' X'' : XS} {D : Addr} {out : Str} {ys : List β} (sx : Sx H0 Z s₀ ⟨A, X', env, ρ, hList X'' u D ys, m⟩ s) (X : XS) (hX : ∀ a, X a → X' a) (hF : ∀ a, Fa env a → X a) (hD : ¬ X D) (hX2 : ∀ a, X a → X'' a)
    (hv : ρ.lookup out = some (bVal (.ref D))) : Sx H0 Z s₀ ⟨A, X, env, (out, (tList u).at ys) :: ρ, hTrue, m⟩ s := by
  obtain ⟨vs, l, r⟩ := sx.cx.om
  have fr := sx.cx.fr.narrow hX hF
  refine ⟨⟨⟨fr.kind, fr.gl, fr.bi, fr.xl, ?_, fr.cells, fr.apart⟩, ⟨fun b o e => ⟨(sx.cx.wd.stay b o e).1, fun q => (sx.cx.wd.stay b o e).2 (hX b q)⟩⟩, fun a q => sx.cx.live a (hX a q), trivial, sx.cx.ok⟩, sx.k0, sx.wl, sx.wc⟩
  obtain ⟨mm, hm, hv'⟩ := fr.vars
  refine ⟨mm, hm, fun n b e => ?_⟩
  simp only [List.lookup_cons] at e
  cases q : n == out with
  | true =>
    simp only [q] at e
    have hn : n = out := by simpa using q
    subst hn
    cases e
    obtain ⟨v, hr, hs⟩ := hv' n _ hv
    obtain rfl : v = .ref D := hr
    exact ⟨_, ⟨D, vs, rfl, hD, l.isList, r.imp fun _ _ z => u.mono z fun b o nb e => ⟨fun q => nb (hX2 b q), e⟩⟩, hs⟩
  | false =>
    simp only [q] at e
    exact hv' n b e
end
end Mine
end

section
open PySem PySem.W PyProof.Rows
set_option maxRecDepth 100000
namespace Mine
set_option linter.unusedVariables false
set_option linter.unusedSimpArgs false
def bitOf (x : Int) (i : Nat) : Bool := decide ((((x.fdiv 16).fdiv (2 ^ (i : Int).toNat)).fmod 2) ≠ 0)
def bitsL (x : Int) : List Int := ((List.range 6).filter (bitOf x)).map fun (i : Nat) => (i : Int)
def lineOf (x : Int) : List Int := if x.fmod 16 = 15 then pickL (bitsL x) none none (some (-1)) else if x.fmod 16 = 14 then bitsL x ++ pickL (bitsL x) none (some 1) none else bitsL x
def linesOf (ns : List Int) : List (List Int) := ns.map lineOf ++ [[1, 4], [0, 2, 4], [3, 5]] ++ if ns.sum.fmod 2 ≠ 0 then (List.range 5).map fun (i : Nat) => [(i : Int), (i : Int) + 1] else []
theorem bitsL_len (x : Int) : (bitsL x).length ≤ 6 := by
  unfold bitsL; rw [List.length_map]; exact Nat.le_trans (List.length_filter_le _ _) (by rw [List.length_range]; exact Nat.le_refl _)
section
variable {prog : Program} {w : World} {H0 : Heap}
theorem fn_lines (W : W0 (hd.heap_1 w.params) H0) {ns : List Int} (hn : ns.length ≤ 1000) : Fn prog w H0 154 1 [(tList tInt).at ns] [] ((tList (tList tInt)).at (linesOf ns)) := by
  refine fn_intro (ρ := [("numbers", (tList tInt).at ns)]) W rfl rfl ?_ rfl rfl rfl ?_ rfl rfl rfl
  · rintro s X vs kvs wd (_ | ⟨h1, _ | _⟩) (_ | _)
    exact ⟨[("numbers", _)], BindsTo.of_eq rfl, .cons ⟨rfl, h1⟩ .nil⟩
  · intro A L X0 X s₀ s hX sx
    have lv := sx.cx.live
    have faX0 : ∀ a, Fa _ a → X a := fun a fa => sx.cx.fr.fa_x fa
    refine st_newlist (tList tInt) sx (.inl rfl) fun D s fD0 fD sx nF => ?_
    have offF : ∀ {ys : List (List Int)} {X' : XS}, (∀ a, Fa _ a → X' a) → (hList X' (tList tInt) D ys).StOff (Fa _) := fun h => hList_off nF h
    have faX : ∀ a, Fa _ a → (xI X D) a := fun a fa => sx.cx.fr.fa_x fa
    refine st_for sx (ev_var rfl rfl rfl) iter_list
      (fun i => [("lines", bVal (.ref D)), ("numbers", (tList tInt).at ns)])
      (fun I i => hList (xI (xI X D) I) (tList tInt) D ((ns.take i).map lineOf)) (fun a => a = D) ?_ ?_ ?_ ?_ ?_ ?_ (.inr ⟨rfl, rfl⟩) ?_ ?_ (fun _ => rfl) rfl
    · exact SubM.get ⟨rfl, rfl, trivial⟩
    · intro I h hI om
      exact hList_widen om fun b o n e q => q.elim n fun q => by rw [q, hI] at e; cases e
    · exact fun I i => offF fun a fa => .inl (faX a fa)
    · exact fun I i => hList_it (.inr rfl)
    · rintro a rfl; exact .inr rfl
    · rintro a rfl; exact .inr (fD.resolve_right id)
    · intro i bi I s₁ s' hbi sx
      rw [List.getElem?_map] at hbi
      obtain ⟨x, hx, rfl⟩ := Option.map_eq_some_iff.mp hbi
      have hi := (List.getElem?_eq_some_iff.mp hx).1
      have F1 : ∀ {ys : List (List Int)}, (hList (xI (xI X D) I) (tList tInt) D ys).StOff (Fa _) := offF fun a fa => .inl (faX a fa)
      have hbl := bitsL_len x
      refine st_comp (u := tInt) (p := bitOf x) (f := fun i : Nat => (i : Int)) sx (ev_range1 W ev_int rfl (fun _ => rfl) (fun _ => rfl)) (iter_range1 (n := 6) (by decide)) (compOk_of rfl rfl rfl rfl rfl) (by decide) (fun j hj X' C hX' => ⟨tsl_one (ts_val (ev_bin (ev_bin (ev_bin (ev_var rfl rfl rfl) ev_int (op_div (by decide) (by decide))) (ev_bin ev_int (ev_var rfl rfl rfl) (op_pow (by omega) ?_ (by decide))) (op_div ?_ ?_)) ev_int (op_mod (by decide))) tr_int fun _ _ => rfl), fun _ => ev_var rfl rfl rfl⟩) (fun _ => rfl) rfl F1 (.inl rfl) fun s sx => ?_
      · have := List.mem_range.mp hj; omega
      · exact Int.ne_of_gt (Int.pow_pos (by decide))
      · have : ∀ j, j < 6 → ((2 : Int) ^ ((j : Nat) : Int).toNat).natAbs < 1073741824 := by decide
        exact this j (List.mem_range.mp hj)
      change Sx H0 _ s₁ ⟨A, _, _, ("line", (tList tInt).at (bitsL x)) :: _, _, _⟩ s at sx
      rw [List.take_add_one, hx, List.map_append, show (some x).toList.map lineOf = [lineOf x] from rfl]
      refine st_if sx (ts_cmp (ev_bin (ev_var rfl rfl rfl) ev_int (op_mod (by decide))) ev_int op_eq rfl) (fun h s sx => ?_) fun h1 s sx => ?_
      · have h := of_decide_eq_true h
        refine st_append sx rfl rfl rfl (y := pickL (bitsL x) none none (some (-1))) (ev_sliceL3 (ev_var rfl rfl rfl) evP_none evP_none (evP_some (ev_neg ev_int)) (by decide) (by omega) (fun _ _ => rfl)) (.inl (.inr rfl)) nF (.inl (.inr rfl)) (by simp; omega) (fun _ => rfl) rfl rfl rfl fun s sx => st_nil (st_nil ⟨.inl rfl, ?_⟩)
        rw [lineOf, if_pos h]; exact sx.sub ⟨rfl, rfl, trivial⟩
      · have h1 := of_decide_eq_false h1
        refine st_if sx (ts_cmp (ev_bin (ev_var rfl rfl rfl) ev_int (op_mod (by decide))) ev_int op_eq rfl) (fun h s sx => ?_) fun h2 s sx => ?_
        · have h := of_decide_eq_true h
          refine st_append sx rfl rfl rfl (y := bitsL x ++ pickL (bitsL x) none (some 1) none) (ev_bin (ev_var rfl rfl rfl) (ev_sliceL (ev_var rfl rfl rfl) evP_none (evP_some ev_int) (by omega) (fun _ _ => rfl)) (op_addL (by have := pickL_le (bitsL x) none (some 1) none; omega))) (.inl (.inr rfl)) nF (.inl (.inr rfl)) (by simp; omega) (fun _ => rfl) rfl rfl rfl fun s sx => st_nil (st_nil (st_nil ⟨.inl rfl, ?_⟩))
          rw [lineOf, if_neg h1, if_pos h]; exact sx.sub ⟨rfl, rfl, trivial⟩
        · have h2 := of_decide_eq_false h2
          refine st_append sx rfl rfl rfl (y := bitsL x) (ev_var rfl rfl rfl) (.inl (.inr rfl)) nF (.inl (.inr rfl)) (by simp; omega) (fun _ => rfl) rfl rfl rfl fun s sx => st_nil (st_nil (st_nil ⟨.inl rfl, ?_⟩))
          rw [lineOf, if_neg h1, if_neg h2]; exact sx.sub ⟨rfl, rfl, trivial⟩
    · intro I s sx
      have hL : (ns.map tInt.at).length = ns.length := by simp
      rw [hL, List.take_length] at sx
      have sx := sx.publish (out := "lines") X (fun a q => .inl q) faX0 (fun q => lv.none fD0 q) (fun a q => .inl (.inl q)) rfl
      refine st_assign sx (ev_bin (ev_var rfl rfl rfl) (ev_listT (t := tList tInt) (xs := [[1, 4], [0, 2, 4], [3, 5]]) (evs_cons (ev_listT (t := tInt) (xs := [1, 4]) (evs_cons ev_int (evs_cons ev_int evs_nil fun _ => rfl) fun _ => rfl) (by decide)) (evs_cons (ev_listT (t := tInt) (xs := [0, 2, 4]) (evs_cons ev_int (evs_cons ev_int (evs_cons ev_int evs_nil fun _ => rfl) fun _ => rfl) fun _ => rfl) (by decide)) (evs_cons (ev_listT (t := tInt) (xs := [3, 5]) (evs_cons ev_int (evs_cons ev_int evs_nil fun _ => rfl) fun _ => rfl) (by decide)) evs_nil fun _ => rfl) fun _ => rfl) fun _ => rfl) (by decide)) (op_addL (by simp; omega))) hTrue_st (.inl rfl) rfl fun s sx => ?_
      refine st_if sx (ts_val (ev_bin (ev_sum W (ev_var rfl rfl rfl) rfl (fun _ => rfl) (fun _ => rfl)) ev_int (op_mod (by decide))) tr_int fun _ _ => rfl) (fun h s sx => ?_) fun h s sx => st_nil ?_
      · have h := of_decide_eq_true h
        refine st_assign sx (ev_bin (ev_var rfl rfl rfl) (ev_compA (u := tList tInt) (f := fun i : Nat => [(i : Int), (i : Int) + 1]) (ev_range1 W ev_int rfl (fun _ => rfl) (fun _ => rfl)) (iter_range1 (n := 5) (by decide)) (compOk_of rfl rfl rfl rfl rfl) (by decide) (fun j hj X' C hX' => ev_listT (t := tInt) (xs := [(j : Int), (j : Int) + 1]) (evs_cons (ev_var rfl rfl rfl) (evs_cons (ev_bin (ev_var rfl rfl rfl) ev_int op_add) evs_nil fun _ => rfl) fun _ => rfl) (by simp)) (fun _ => rfl)) (op_addL (by simp; omega))) hTrue_st (.inl rfl) rfl fun s sx => st_nil ?_
        refine st_return sx ((ev_var rfl rfl rfl).cast ?_) hX fun v s' => retOk
        rw [linesOf, if_pos h]
      · have h := of_decide_eq_false h
        refine st_return sx ((ev_var rfl rfl rfl).cast ?_) hX fun v s' => retOk
        rw [linesOf, if_neg h, List.append_nil]
end
end Mine
end

section
open PySem PySem.W PyProof.Rows
namespace Mine
set_option linter.unusedVariables false
section
variable {prog : Program} {w : World} {H0 : Heap} {Z X0 X : XS} {s₀ s : Shared} {A : Around} {env : Env} {ρ : List (Str × Bd)} {Ω : Hp} {m : Nat} {pos p : Pos} {e : Expr} {b r : Bd} {E : Value → Shared → Prop} {Q : Flow → Shared → Prop} {rest : List Stmt} {α β : Type} {t : Ty α} {u : Ty β} {g : Γ}
theorem unpack2 {a : Addr} {v1 v2 : Value} {Q : List Value → Shared → Prop} (hh : A.handled = none) (l : s.heap.IsList a #[v1, v2]) (hQ : ∀ s', Keeps s s' → Q [v1, v2] s') : wpAny (model prog w) A (unpackItems (.ref a) 2 none) Q E s := by
  obtain ⟨oa, hoa, hra⟩ := id l
  have hne : a ≠ s.heap.objs.size := Nat.ne_of_lt (Heap.lt_size hoa)
  have W := Walks.list (prog := prog) (w := w) hh s.heap.objs.size a hne #[v1, v2]
  have hI : s.heap.get? s.heap.objs.size = none := get_none_of_size (Nat.le_refl _)
  unfold unpackItems
  refine wpAny_bind ?_
  unfold notIterableAtAll
  refine wpAny_bind (wpAny_specialOf l.typeIs slot_list_iter.lookup ?_)
  refine wpAny_pure ?_
  simp only [Bool.false_eq_true, if_false]
  refine wpAny_bind (wpAny_holding (wpAny_pyIter_list l ?_))
  refine wpAny_bind (wpAny_holding ?_)
  show wpAny _ _ (pyNext (.ref s.heap.objs.size) >>= _) _ _ _
  refine wpAny_bind (W.item 0 _ _ _ (by show (0 : Nat) < 2; decide) ⟨⟨_, Heap.get?_push_size _ rfl, rfl, rfl⟩, l.push _⟩ fun w1 h1 t1 p1 st1 k1 => ?_)
  obtain rfl : v1 = w1 := by simpa using p1
  refine wpAny_bind (wpAny_holding ?_)
  show wpAny _ _ (pyNext (.ref s.heap.objs.size) >>= _) _ _ _
  refine wpAny_bind (W.item 1 _ _ _ (by show (1 : Nat) < 2; decide) st1 fun w2 h2 t2 p2 st2 k2 => ?_)
  obtain rfl : v2 = w2 := by simpa using p2
  refine wpAny_bind (wpAny_holding (wpAny_pure (wpAny_pure (wpAny_pure ?_))))
  rw [if_neg (by simp)]
  refine wpAny_bind (wpAny_holding (W.done _ _ _ st2 fun h3 t3 k3 => ?_))
  simp only [Option.isSome_none, Bool.false_eq_true, if_false]
  refine wpAny_pure (hQ _ ⟨h3, t3, rfl, fun b o e => ?_⟩)
  have nb : b ∉ [s.heap.objs.size] := fun q => by
    rw [List.mem_singleton.mp q, hI] at e; cases e
  exact k3 b o nb (k2 b o nb (k1 b o nb (Heap.get?_push_of_some _ e)))
/-- a, b = a list of two -/
theorem st_unpack2 {x y : Str} {px py tp : Pos} {kk} {z : α × β} (sx : Sx H0 Z s₀ ⟨A, X, env, ρ, Ω, m⟩ s) (he : Ev prog w H0 ⟨A, X, env, ρ, Ω, m⟩ X e ((tTwo t u).at z)) (hΩ : Ω.StOff (Fa env))
    (hkx : env.kindOf x = some .local ∨ (env.kindOf x = some .cell ∧ (env.cells.lookup x).isSome = true)) (hky : env.kindOf y = some .local ∨ (env.kindOf y = some .cell ∧ (env.cells.lookup y).isSome = true))
    (hs : swapsWithSole [.Tuple [.Name x px, .Name y py] kk tp] e pos.line env = pure false) (hw : swappedStores [.Tuple [.Name x px, .Name y py] kk tp] e env = pure none)
    (k : ∀ s', Sx H0 Z s₀ ⟨A, X, env, (y, u.at z.2) :: (x, t.at z.1) :: ρ, Ω, m⟩ s' → wpAny (model prog w) A (execs rest env) Q E s') :
    wpAny (model prog w) A (execs (.Assign [.Tuple [.Name x px, .Name y py] kk tp] e pos :: rest) env) Q E s := by
  refine wpAny_execs_cons (Assign_Tuple (he.use sx.cx fun v s1 k1 c1 r1 => ?_) hs hw)
  obtain ⟨a, v1, v2, rfl, na, l, q1, q2⟩ := r1
  rw [assign_Tuple]
  refine wpAny_bind (wpAny_standAt ?_)
  unfold unpack
  refine wpAny_bind (wpAny_holding ?_)
  show wpAny _ _ (unpackItems (.ref a) 2 none) _ _ _
  refine unpack2 c1.ok.hh l fun s2 k2 => ?_
  have sx2 := (sx.keep k1).keep k2
  have q1' := (t.at z.1).keep q1 k2
  have q2' := (u.at z.2).keep q2 k2
  show wpAny _ _ (assignInOrder [assign (.Name x px) env, assign (.Name y py) env] [v1, v2]) _ _ _
  refine assignInOrder_cons (assign_Name ?_)
  refine store sx2 (b := t.at z.1) q1' hΩ hkx fun s3 sx3 ko => ?_
  refine assignInOrder_cons (assign_Name ?_)
  refine store sx3 (b := u.at z.2) ?_ hΩ hky fun s4 sx4 _ => assignInOrder_nil (k s4 sx4)
  exact u.mono q2' fun b o nb e => ⟨nb, ko.get (fun fa => nb (sx2.cx.fr.fa_x fa)) e⟩
end
end Mine
end

section
open PySem PySem.W PyProof.Rows
set_option maxRecDepth 100000
namespace Mine
set_option linter.unusedVariables false
set_option linter.unusedSimpArgs false
def nmOf (names : List (List UInt8)) (p : Int) : List UInt8 := names.getD p.toNat []
def named (told : Option (List Int) × List (List Int)) (names : List (List UInt8)) : Option (List (List UInt8)) × List (List (List UInt8)) := (told.1.map (·.map (nmOf names)), told.2.map (·.map (nmOf names)))
def In6 (l : List Int) : Prop := ∀ p ∈ l, 0 ≤ p ∧ p < 6
section
variable {prog : Program} {w : World} {H0 : Heap}
theorem op_isNoneF {g : Γ} {Y1 Y2 Y : XS} {α : Type} {t : Ty α} {xs : List α} : OpOk prog w H0 g (compareOp .Is) Y1 ((tList t).at xs) Y2 (tNone.at ()) Y (tBool.at false) := op_isNone (by rintro s v ⟨a, vs, rfl, _⟩; rfl)
theorem op_isNoneT {g : Γ} {Y1 Y2 Y : XS} : OpOk prog w H0 g (compareOp .Is) Y1 (tNone.at ()) Y2 (tNone.at ()) Y (tBool.at true) := op_isNone (by rintro s v rfl; rfl)
theorem nm_item {names : List (List UInt8)} (hn : names.length = 6) {p : Int} (h : 0 ≤ p ∧ p < 6) : names[p.toNat]? = some (nmOf names p) := by
  unfold nmOf
  rw [List.getD_eq_getElem?_getD, List.getElem?_eq_getElem (by omega)]; rfl
theorem fn_named (W : W0 (hd.heap_1 w.params) H0) {told : Option (List Int) × List (List Int)} {names : List (List UInt8)} (hn : names.length = 6) (h1 : ∀ l, told.1 = some l → In6 l ∧ l.length ≤ 1000) (h2 : ∀ l ∈ told.2, In6 l ∧ l.length ≤ 1000) (h3 : told.2.length ≤ 1000) :
    Fn prog w H0 209 1 [(tTwo (tOpt (tList tInt)) (tList (tList tInt))).at told, (tList tBytes).at names] [] ((tTwo (tOpt (tList tBytes)) (tList (tList tBytes))).at (named told names)) := by
  obtain ⟨o, r⟩ := told
  simp only at h1 h2 h3
  refine fn_intro (ρ := [("told", (tTwo (tOpt (tList tInt)) (tList (tList tInt))).at (o, r)), ("names", (tList tBytes).at names)]) W rfl rfl ?_ rfl rfl rfl ?_ rfl rfl rfl
  · rintro s X vs kvs wd (_ | ⟨h1, _ | ⟨h2, _ | _⟩⟩) (_ | _)
    exact ⟨[("told", _), ("names", _)], BindsTo.of_eq rfl, .cons ⟨rfl, h1⟩ (.cons ⟨rfl, h2⟩ .nil)⟩
  · intro A L X0 X s₀ s hX sx
    refine st_unpack2 sx (ev_var rfl rfl rfl) hTrue_st (.inl rfl) (.inl rfl) rfl rfl fun s sx => ?_
    refine st_return sx (ev_list2 (t := tOpt (tList tBytes)) (u := tList (tList tBytes)) (x := o.map (·.map (nmOf names))) (y := r.map (·.map (nmOf names))) ?_ ?_ (fun _ => rfl) (fun _ => rfl)) hX fun v s' => retOk
    · cases o with
      | none => exact ev_ifexp (c := true) (ts_cmp ((ev_var rfl rfl rfl).cast (b' := tNone.at ()) rfl) ev_none op_isNoneT rfl) (fun _ => ev_none) (fun h => absurd h (by decide))
      | some xs =>
        obtain ⟨hx, hl⟩ := h1 xs rfl
        refine ev_ifexp (c := false) (ts_cmp ((ev_var rfl rfl rfl).cast (b' := (tList tInt).at xs) rfl) ev_none op_isNoneF rfl) (fun h => absurd h (by decide)) (fun _ => ?_)
        exact ev_compA (u := tBytes) (f := nmOf names) ((ev_var rfl rfl rfl).cast (b' := (tList tInt).at xs) rfl) iter_list (compOk_of rfl rfl rfl rfl rfl) (by omega) (fun p hp X' C hX' => ev_itemL (ev_var rfl rfl rfl) (ev_var rfl rfl rfl) (hx p hp).1 (by have := (hx p hp).2; omega) (nm_item hn (hx p hp)) (fun _ _ => rfl) (fun _ _ => rfl)) (fun _ => rfl)
    · refine ev_compA (u := tList tBytes) (f := fun l : List Int => l.map (nmOf names)) (ev_var rfl rfl rfl) iter_list (compOk_of rfl rfl rfl rfl rfl) (by omega) (fun l hl X' C hX' => ?_) (fun _ => rfl)
      obtain ⟨hx, hl'⟩ := h2 l hl
      exact ev_compA (g := gC _ _ _ _ _ _) (u := tBytes) (f := nmOf names) (ev_var rfl rfl rfl) iter_list (compOk_of rfl rfl rfl rfl rfl) (by omega) (fun p hp X'' C' hX'' => ev_itemL (ev_var rfl rfl rfl) (ev_var rfl rfl rfl) (hx p hp).1 (by have := (hx p hp).2; omega) (nm_item hn (hx p hp)) (fun _ _ => rfl) (fun _ _ => rfl)) (fun _ => rfl)
end
end Mine
end

section
open PySem PySem.W PyProof.Rows
set_option maxRecDepth 100000
namespace Mine
section
variable {prog : Program} {w : World} {H0 : Heap}

theorem fn_join (W : W0 (hd.heap_1 w.params) H0) {a b : List UInt8} (hz : a.length + b.length ≤ 16777216) :
    Fn prog w H0 192 1 [tBytes.at a, tBytes.at b] [] (tBytes.at (a ++ b)) := by
  refine fn_intro (ρ := [("one", tBytes.at a), ("other", tBytes.at b)]) W rfl rfl ?_ rfl rfl rfl ?_ rfl rfl rfl
  · rintro s X vs kvs wd (_ | ⟨h1, _ | ⟨h2, _ | _⟩⟩) (_ | _)
    exact ⟨[("one", _), ("other", _)], BindsTo.of_eq rfl, .cons ⟨rfl, h1⟩ (.cons ⟨rfl, h2⟩ .nil)⟩
  · intro A L X0 X s₀ s hX x
    refine st_return x (ev_bin (ev_var rfl rfl rfl) (ev_var rfl rfl rfl) (op_addBytes hz)) hX fun _ _ => retOk
end
end Mine
end

section
open PySem PySem.W PyProof.Rows
namespace Mine
set_option linter.unusedVariables false
section
variable {prog : Program} {w : World} {H0 : Heap} {Z X0 X : XS} {s₀ s : Shared} {A : Around} {env : Env} {ρ : List (Str × Bd)} {Ω : Hp} {m : Nat} {pos p : Pos} {e : Expr} {b r : Bd} {E : Value → Shared → Prop} {Q : Flow → Shared → Prop} {rest : List Stmt} {α β : Type} {t : Ty α} {u : Ty β} {g : Γ}
/-- an exclusive object changed -/
theorem Sx.turn (sx : Sx H0 Z s₀ ⟨A, X, env, ρ, Ω, m⟩ s) {I : Addr} (hXI : X I) (hF : ¬ Fa env I) (hZ : Z I ∨ s₀.heap.get? I = none) {h' : Heap} {tk : Nat} (hk : ∀ b o, b ≠ I → s.heap.get? b = some o → h'.get? b = some o)
    (hl : ∃ o, h'.get? I = some o) {Ω' : Hp} (om : Ω'.p h') : Sx H0 Z s₀ ⟨A, X, env, ρ, Ω', m⟩ { s with heap := h', toks := tk } := by
  refine ⟨⟨sx.cx.fr.off (Z := fun a => a = I) (fun b o nb e => hk b o nb e) (fun a q => q ▸ hXI) (fun a q => q ▸ hF), ⟨fun b o e => ?_⟩, fun a q => ?_, om, sx.cx.ok⟩, ?_, sx.wl, sx.wc⟩
  · obtain ⟨e', nx⟩ := sx.cx.wd.stay b o e
    exact ⟨hk b o (fun q => nx (q ▸ hXI)) e', nx⟩
  · by_cases z : a = I
    · subst z; exact hl
    · obtain ⟨o, e⟩ := sx.cx.live a q; exact ⟨o, hk a o z e⟩
  · obtain ⟨h0, t0, rfl, kq⟩ := sx.k0
    refine ⟨h', tk, rfl, fun b o nb e => hk b o (fun q => ?_) (kq b o nb e)⟩
    subst q
    rcases hZ with z | z
    · exact nb z
    · rw [z] at e; cases e
/-- a new object made exclusive -/
theorem Sx.own (sx : Sx H0 Z s₀ ⟨A, X, env, ρ, Ω, m⟩ s) {I : Addr} {s' : Shared} (hI : s.heap.get? I = none) (hk : Keeps s s') (hl : ∃ o, s'.heap.get? I = some o) {Ω' : Hp} (om : Ω'.p s'.heap) :
    Sx H0 Z s₀ ⟨A, xI X I, env, ρ, Ω', m⟩ s' ∧ ¬ Fa env I ∧ (Z I ∨ s₀.heap.get? I = none) := by
  have nX : ¬ X I := fun q => by obtain ⟨o, e⟩ := sx.cx.live I q; rw [hI] at e; cases e
  have wid : ∀ b o, ¬ X b → s.heap.get? b = some o → ¬ xI X I b := fun b o nb e q => q.elim nb fun q => by rw [q, hI] at e; cases e
  have sx1 := sx.keep hk
  refine ⟨⟨⟨(sx.cx.fr.widen (fun a q => .inl q) wid).keep hk.keep, sx.cx.wd.kx fun b o nb e => ⟨wid b o nb e, hk.keep b o e⟩, ?_, om, sx.cx.ok⟩, sx1.k0, sx.wl, sx.wc⟩, fun fa => nX (sx.cx.fr.fa_x fa), ?_⟩
  · rintro a (q | q)
    · exact sx1.cx.live a q
    · subst q; exact hl
  · by_cases z : Z I
    · exact .inl z
    · right
      cases q : s₀.heap.get? I with
      | none => rfl
      | some o => have := sx.k0.get z q; rw [hI] at this; cases this
/-- a list iterator of one's own -/
def hIt (X : XS) (t : Ty α) (I : Addr) (xs : List α) (i : Nat) : Hp := ⟨fun h => ∃ a vs, ¬ X a ∧ h.IsListIter I a i ∧ h.IsList a vs.toArray ∧ All2 (fun v x => t.rel X h v x) vs xs, by
  rintro h h' ⟨a, vs, n, ⟨o, ho, hr⟩, l, r⟩ k
  exact ⟨a, vs, n, ⟨o, k _ _ ho, hr⟩, (isList_kx (Kx.of_keep k) n l).2, r.imp fun _ _ q => t.mono q (Kx.of_keep k)⟩⟩
theorem hIt_off {I : Addr} {xs : List α} {i : Nat} (hI : ¬ Fa env I) (hX : ∀ a, Fa env a → X a) : (hIt X t I xs i).StOff (Fa env) := by
  rintro h h' k ⟨a, vs, n, ⟨o, ho, hr⟩, l, r⟩
  have kx : Kx X X h h' := fun b o nb e => ⟨nb, k b o (fun q => nb (hX b q)) e⟩
  exact ⟨a, vs, n, ⟨o, k _ _ hI ho, hr⟩, (isList_kx kx n l).2, r.imp fun _ _ q => t.mono q kx⟩
/-- it = iter(a list) -/
theorem st_iter {n : Str} {np fp apos pos : Pos} {xs : List α} (sx : Sx H0 Z s₀ ⟨A, X, env, ρ, Ω, m⟩ s) (hf : Ev prog w H0 ⟨A, X, env, ρ, Ω, m⟩ X (.Name "iter" fp) (bVal (.builtin "iter"))) (he : Ev prog w H0 ⟨A, X, env, ρ, Ω, m⟩ X e ((tList t).at xs))
    (hk : env.kindOf n = some .local ∨ (env.kindOf n = some .cell ∧ (env.cells.lookup n).isSome = true)) (hst : ∀ env, starEach [e] env = (false, eval e env) :: starEach [] env) (hp : ∀ env, (backTo apos (starEach [e] env)).any (·.1) = false)
    (hs : swapsWith (.Call (.Name "iter" fp) [e] [] apos) (some (.Name n np)) pos.line env = pure false)
    (k : ∀ I s', s.heap.get? I = none → Sx H0 Z s₀ ⟨A, xI X I, env, (n, bVal (.ref I)) :: ρ, hIt (xI X I) t I xs 0, m⟩ s' → ¬ Fa env I → (Z I ∨ s₀.heap.get? I = none) → wpAny (model prog w) A (execs rest env) Q E s') :
    wpAny (model prog w) A (execs (.Assign [.Name n np] (.Call (.Name "iter" fp) [e] [] apos) pos :: rest) env) Q E s := by
  refine wpAny_execs_cons (wpAny_Assign_Name (wpAny_Call_Name_kw (hf.use sx.cx fun v s1 k1 c1 r1 => ?_)) hs)
  obtain rfl : v = .builtin "iter" := r1
  refine Calls.callWith_builtin (hp _) (evalArgs_of (g := ⟨A, X, env, ρ, Ω, m⟩) hst ?_)
  refine wpAny_mono (evs_cons he evs_nil hst s1 c1 E) (fun vs s2 q => ?_) fun _ _ e => e
  obtain ⟨k2, _ | ⟨⟨a, us, rfl, na, l, r⟩, _ | _⟩⟩ := q
  have sx2 := (sx.keep k1).keep k2
  refine Calls.call_function_entry (by decide +kernel) (by decide +kernel) kdk_entry_iter (kdk_args_iter _) ?_
  unfold Builtin.«iter»
  refine wpAny_bind (m := someArgs "iter" 1 2 _) (wpAny_of_eq (a := [Value.ref a]) (by first | rfl | kernel_rfl) ?_)
  show wpAny _ _ (pyIter (.ref a) >>= _) _ _ _
  refine wpAny_bind (wpAny_pyIter_list l ?_)
  have hI2 : s2.heap.get? s2.heap.objs.size = none := get_none_of_size (Nat.le_refl _)
  have kp := Keeps.push s2 { cls := .type "list_iterator", data := .fields #[.ref a, .int 0 0] }
  have hgI : (s2.heap.push { cls := .type "list_iterator", data := .fields #[.ref a, .int 0 0] }).get? s2.heap.objs.size = some { cls := .type "list_iterator", data := .fields #[.ref a, .int 0 0] } := Heap.get?_push_size _ rfl
  have naI : a ≠ s2.heap.objs.size := by obtain ⟨o, ho, _⟩ := l; exact Nat.ne_of_lt (Heap.lt_size ho)
  have kx : Kx X (xI X s2.heap.objs.size) s2.heap (s2.heap.push { cls := .type "list_iterator", data := .fields #[.ref a, .int 0 0] }) := fun b o nb e =>
    ⟨fun q => q.elim nb fun q => (by rw [q, hI2] at e; cases e), kp.keep b o e⟩
  obtain ⟨sx3, nF, hZ⟩ := sx2.own (Ω' := hIt (xI X s2.heap.objs.size) t s2.heap.objs.size xs 0) hI2 kp ⟨_, hgI⟩
    ⟨a, us, fun q => q.elim na naI, ⟨_, hgI, rfl, rfl⟩, (isList_kx kx na l).2, r.imp fun _ _ q => t.mono q kx⟩
  refine wpAny_pure ⟨_, rfl, store sx3 (b := bVal (.ref s2.heap.objs.size)) rfl (hIt_off nF fun a fa => .inl (sx2.cx.fr.fa_x fa)) hk fun s4 sx4 _ => ?_⟩
  exact k _ s4 (Keep.none (k1.trans k2).keep hI2) sx4 nF hZ
theorem it_turn {I : Addr} {xs : List α} {i : Nat} {x : α} (sx : Sx H0 Z s₀ ⟨A, X, env, ρ, hIt X t I xs i, m⟩ s) (hXI : X I) (hF : ¬ Fa env I) (hZ : Z I ∨ s₀.heap.get? I = none) {a : Addr} {vs : List Value} (na : ¬ X a) (l : s.heap.IsList a vs.toArray) (r : All2 (fun v x => t.rel X s.heap v x) vs xs)
    (hx : xs[i]? = some x) {h' : Heap} {tk : Nat} (hit : h'.IsListIter I a (i + 1)) (hk : ∀ b o, b ≠ I → s.heap.get? b = some o → h'.get? b = some o) :
    Sx H0 Z s₀ ⟨A, X, env, ρ, hIt X t I xs (i + 1), m⟩ { s with heap := h', toks := tk } ∧ ∃ v, vs[i]? = some v ∧ t.rel X h' v x := by
  have kx : Kx X X s.heap h' := fun b o nb e => ⟨nb, hk b o (fun q => nb (q ▸ hXI)) e⟩
  obtain ⟨v, hv, hr⟩ := r.get' hx
  exact ⟨sx.turn hXI hF hZ hk (let ⟨o, ho, _⟩ := hit; ⟨o, ho⟩) ⟨a, vs, na, hit, (isList_kx kx na l).2, r.imp fun _ _ q => t.mono q kx⟩, v, hv, t.mono hr kx⟩
/-- value = next(it) -/
theorem st_next {n : Str} {np fp apos pos : Pos} {I : Addr} {xs : List α} {i : Nat} {x : α} (sx : Sx H0 Z s₀ ⟨A, X, env, ρ, hIt X t I xs i, m⟩ s) (hXI : X I) (hF : ¬ Fa env I) (hZ : Z I ∨ s₀.heap.get? I = none) (hx : xs[i]? = some x)
    (hf : Ev prog w H0 ⟨A, X, env, ρ, hIt X t I xs i, m⟩ X (.Name "next" fp) (bVal (.builtin "next"))) (he : Ev prog w H0 ⟨A, X, env, ρ, hIt X t I xs i, m⟩ X e (bVal (.ref I)))
    (hk : env.kindOf n = some .local ∨ (env.kindOf n = some .cell ∧ (env.cells.lookup n).isSome = true)) (hst : ∀ env, starEach [e] env = (false, eval e env) :: starEach [] env) (hp : ∀ env, (backTo apos (starEach [e] env)).any (·.1) = false)
    (hs : swapsWith (.Call (.Name "next" fp) [e] [] apos) (some (.Name n np)) pos.line env = pure false)
    (k : ∀ s', Sx H0 Z s₀ ⟨A, X, env, (n, t.at x) :: ρ, hIt X t I xs (i + 1), m⟩ s' → wpAny (model prog w) A (execs rest env) Q E s') :
    wpAny (model prog w) A (execs (.Assign [.Name n np] (.Call (.Name "next" fp) [e] [] apos) pos :: rest) env) Q E s := by
  refine wpAny_execs_cons (wpAny_Assign_Name (wpAny_Call_Name_kw (hf.use sx.cx fun v s1 k1 c1 r1 => ?_)) hs)
  obtain rfl : v = .builtin "next" := r1
  refine Calls.callWith_builtin (hp _) (evalArgs_of (g := ⟨A, X, env, ρ, hIt X t I xs i, m⟩) hst ?_)
  refine wpAny_mono (evs_cons he evs_nil hst s1 c1 E) (fun vs s2 q => ?_) fun _ _ e => e
  obtain ⟨k2, _ | ⟨h1, _ | _⟩⟩ := q
  obtain rfl := h1
  have sx2 := (sx.keep k1).keep k2
  obtain ⟨a, vs, na, hit, l, r⟩ := sx2.cx.om
  obtain ⟨v, hv, _⟩ := r.get' hx
  refine Calls.call_function_entry (by decide +kernel) (by decide +kernel) kdk_entry_next (kdk_args_next _) ?_
  unfold Builtin.«next»
  refine wpAny_bind (m := someArgs "next" 1 2 _) (wpAny_of_eq (a := [Value.ref I]) (by first | rfl | kernel_rfl) ?_)
  dsimp only
  refine wpAny_bind (wpAny_specialOf (name := Str.ofString "__next__") hit.typeIs slot_listiter_next.lookup ?_)
  refine wpAny_ite_split (fun hab => absurd hab (by decide)) (fun _ => ?_)
  obtain ⟨o, ho, hc, hd⟩ := id hit
  obtain ⟨ol, hol, hcl, nl, hdl⟩ := id l
  refine wpAny_bind (wpAny_callSpecial?_slot (name := Str.ofString "__next__") hit.typeIs slot_listiter_next
    (wpAny_call_entry slot_listiter_next hit.typeIs entry_listiter_next ?_ (args_listiter_next _)))
  show wpAny _ _ (field (.ref I) 0 >>= _) _ _ s2
  refine wpAny_bind (wpAny_field ho hd (x := .ref a) rfl ?_)
  show wpAny _ _ (if (Value.ref a == Value.none) = true then _ else _) _ _ s2
  rw [if_neg (show ¬ ((Value.ref a == Value.none) = true) from Bool.false_ne_true)]
  show wpAny _ _ (field (.ref I) 1 >>= _) _ _ s2
  refine wpAny_bind (wpAny_field ho hd (x := .int i 0) rfl ?_)
  show wpAny _ _ (seqItems? (.ref a) >>= _) _ _ s2
  refine wpAny_bind (wpAny_seqItems hol hdl ?_)
  have hv' : vs.toArray[i]? = some v := by simpa using hv
  simp only [Int.toNat_natCast, hv']
  refine wpAny_bind (wpAny_setField ho hd (by simp) (wpAny_pure ⟨v, rfl, ?_⟩))
  obtain ⟨sx3, v', hv2, hr⟩ := it_turn (tk := s2.toks) sx2 hXI hF hZ na l r hx (h' := s2.heap.update I (Obj.mapFields (·.setIfInBounds 1 (rawInt ((i : Int) + 1)))))
    ⟨_, Heap.get?_update_self _ ho (Obj.isFreed_of_fields (Obj.data_mapFields hd _)), (Obj.cls_mapFields ..).trans hc, by rw [Obj.data_mapFields hd]; simp [rawInt]⟩
    (fun b o nb e => (Heap.get?_update_other _ _ (Ne.symm nb)).trans e)
  obtain rfl : v = v' := Option.some.inj (hv.symm.trans hv2)
  exact wpAny_pure ⟨_, rfl, store sx3 (b := t.at x) hr (hIt_off hF fun a fa => sx3.cx.fr.fa_x fa) hk fun s4 sx4 _ => k s4 sx4⟩
/-- for x in it -/
theorem st_forIt {X1 : XS} {n : Str} {np pos : Pos} {body orelse : List Stmt} {I : Addr} {xs : List α} {i0 : Nat} (hi0 : i0 ≤ xs.length) (sx : Sx H0 Z s₀ ⟨A, X, env, ρ, hIt X t I xs i0, m⟩ s) (hX1 : X = xI X1 I) (hn1 : ¬ X1 I) (hF : ¬ Fa env I) (hZ : Z I ∨ s₀.heap.get? I = none)
    (he : Ev prog w H0 ⟨A, X, env, ρ, hIt X t I xs i0, m⟩ X e (bVal (.ref I))) (ρs : Nat → List (Str × Bd)) (h0 : SubM ρ (ρs i0))
    (hk : env.kindOf n = some .local ∨ (env.kindOf n = some .cell ∧ (env.cells.lookup n).isSome = true))
    (hbody : ∀ i x s', xs[i]? = some x → Sx H0 Z s₀ ⟨A, X, env, (n, t.at x) :: ρs i, hIt X t I xs (i + 1), m⟩ s' → wpAny (model prog w) A (execs body env) (fun fl s'' => (fl = .next ∨ fl = .cont) ∧ Sx H0 Z s₀ ⟨A, X, env, ρs (i + 1), hIt X t I xs (i + 1), m⟩ s'') (fun _ _ => False) s')
    (hend : ∀ s', Sx H0 Z s₀ ⟨A, X1, env, ρs xs.length, hTrue, m⟩ s' → wpAny (model prog w) A (execs rest env) Q E s')
    (hs : ∀ x, foldedSetIterable e env x = pure x) (hor : orelse = []) :
    wpAny (model prog w) A (execs (.For (.Name n np) e body orelse pos :: rest) env) Q E s := by
  subst hor
  have hXI : X I := hX1 ▸ .inr rfl
  refine wpAny_execs_cons (wpAny_For (he.use sx.cx fun v s1 k1 c1 r1 => ?_) hs)
  obtain rfl : v = .ref I := r1
  have sx1 := sx.keep k1
  obtain ⟨a1, vs1, na1, hit1, l1, r1⟩ := sx1.cx.om
  have hne1 : a1 ≠ I := fun q => na1 (q ▸ hXI)
  refine (Walks.list (prog := prog) (w := w) c1.ok.hh I a1 hne1 vs1.toArray).self i0 _ _ _ ⟨hit1, l1⟩ ?_
  refine codeAny_forLoop (fun k s' => ∃ i, i ≤ xs.length ∧ k = xs.length + 1 - i ∧ Sx H0 Z s₀ ⟨A, X, env, ρs i, hIt X t I xs i, m⟩ s') ?_ (xs.length + 1 - i0) ⟨i0, hi0, rfl, sx1.sub h0⟩
  rintro k s' ⟨i, hi, rfl, sx'⟩
  obtain ⟨a, vs, na, hit, l, r⟩ := sx'.cx.om
  have hne : a ≠ I := fun q => na (q ▸ hXI)
  by_cases hlt : i < xs.length
  · obtain ⟨x, hx⟩ : ∃ x, xs[i]? = some x := ⟨xs[i], by simp [hlt]⟩
    obtain ⟨v, hv, _⟩ := r.get' hx
    refine wpAny_pyNext_list_item hit l (x := v) (by simpa using hv) fun h' hit' sb => ?_
    obtain ⟨sx3, v', hv2, hr⟩ := it_turn (tk := s'.toks) sx' hXI hF hZ na l r hx hit' fun b o nb e => (sb.2 b nb).trans e
    obtain rfl : v = v' := Option.some.inj (hv.symm.trans hv2)
    refine wpAny_assign_Name (store sx3 (b := t.at x) hr (hIt_off hF fun a fa => sx3.cx.fr.fa_x fa) hk fun s4 sx4 _ => ?_)
    refine wpAny_mono (hbody i x s4 hx sx4) (fun fl s5 q5 => ?_) fun _ _ e => e.elim
    obtain ⟨hfl, sx5⟩ := q5
    have fin : ∃ m', m' < xs.length + 1 - i ∧ ∃ i', i' ≤ xs.length ∧ m' = xs.length + 1 - i' ∧ Sx H0 Z s₀ ⟨A, X, env, ρs i', hIt X t I xs i', m⟩ s5 := ⟨xs.length + 1 - (i + 1), by omega, i + 1, hlt, rfl, sx5⟩
    rcases hfl with rfl | rfl
    · exact fin
    · exact fin
  · obtain rfl : i = xs.length := by omega
    refine wpAny_pyNext_list_end sx'.cx.ok.hh hit l (by have := r.length; simp; omega) fun h' ex => wpAny_execs_nil ?_
    have hX : ∀ a, X1 a → X a := fun a q => hX1 ▸ .inl q
    have hF1 : ∀ a, Fa env a → X1 a := fun a fa => by
      have := sx'.cx.fr.fa_x fa
      rw [hX1] at this
      exact this.resolve_right fun q => hF (q ▸ fa)
    refine hend _ ⟨⟨(sx'.cx.fr.off (Z := fun a => a = I) (fun b o nb e => ex b o nb e) (fun a q => q ▸ hXI) (fun a q => q ▸ hF)).narrow hX hF1, ⟨fun b o e => ?_⟩, fun a q => ?_, trivial, sx'.cx.ok⟩, ?_, sx'.wl, sx'.wc⟩
    · obtain ⟨e', nx⟩ := sx'.cx.wd.stay b o e
      exact ⟨ex b o (fun q => nx (q ▸ hXI)) e', fun q => nx (hX b q)⟩
    · obtain ⟨o, e⟩ := sx'.cx.live a (hX a q)
      exact ⟨o, ex a o (fun z => hn1 (z ▸ q)) e⟩
    · obtain ⟨h0, t0, rfl, kq⟩ := sx'.k0
      refine ⟨h', t0, rfl, fun b o nb e => ex b o (fun q => ?_) (kq b o nb e)⟩
      subst q
      rcases hZ with z | z
      · exact nb z
      · rw [z] at e; cases e
end
end Mine
end

section
open PySem PySem.W PyProof.Rows
set_option maxRecDepth 100000
namespace Mine
set_option linter.unusedVariables false
set_option linter.unusedSimpArgs false
section
variable {prog : Program} {w : World} {H0 : Heap}
theorem op_isRef {g : Γ} {Y Y1 Y2 : XS} {a : Addr} : OpOk prog w H0 g (compareOp .Is) Y1 (bVal (.ref a)) Y2 (bVal (.ref a)) Y (tBool.at true) := by
  rintro s v1 v2 E c rfl rfl
  exact wpAny_is_ref_self ⟨Keeps.refl s, rfl⟩
theorem fn_reduce (W : W0 (hd.heap_1 w.params) H0) {xs : List (List UInt8)} (hne : xs ≠ []) (hz : xs.flatten.length ≤ 16777216) :
    Fn prog w H0 30 2 [bVal (.ref 192), (tList tBytes).at xs] [] (tBytes.at xs.flatten) := by
  refine fn_intro (ρ := [("function", bVal (.ref 192)), ("sequence", (tList tBytes).at xs), ("initial", bVal (.ref 22))]) W rfl rfl ?_ rfl rfl rfl ?_ rfl rfl rfl
  · rintro s X vs kvs wd (_ | ⟨h1, _ | ⟨h2, _ | _⟩⟩) (_ | _)
    exact ⟨[("function", _), ("sequence", _), ("initial", .ref 22)], binds_K (fun a o e => wd.keep _ _ (W.kin a o e)) rfl rfl rfl rfl rfl, .cons ⟨rfl, h1⟩ (.cons ⟨rfl, h2⟩ (.cons ⟨rfl, rfl⟩ .nil))⟩
  · intro A L X0 X s₀ s hX sx
    have lv := sx.cx.live
    refine st_iter sx (ev_boot W rfl nb_iter rfl (by decide) rfl) (ev_var rfl rfl rfl) (.inl rfl) (fun _ => rfl) (fun _ => rfl) rfl fun I s hI sx nF hZ => ?_
    have nXI : ¬ X I := lv.none hI
    have hpos : 0 < xs.length := List.length_pos_iff.mpr hne
    obtain ⟨x0, hx0⟩ : ∃ x, xs[0]? = some x := ⟨xs[0], by simp [hpos]⟩
    refine st_if sx (ts_cmp (ev_var rfl rfl rfl) (ev_glob W rfl nm_initial_missing rfl) op_isRef rfl) (fun _ s sx => ?_) (fun h => absurd h (by decide))
    refine wpAny_execs_cons (wpAny_Try_except ?_)
    refine st_next sx (.inr rfl) nF hZ hx0 (ev_boot W rfl nb_next rfl (by decide) rfl) (ev_var rfl rfl rfl) (.inl rfl) (fun _ => rfl) (fun _ => rfl) rfl fun s sx => st_nil (st_nil (st_nil ?_))
    have ht : ∀ i x, xs[i]? = some x → (xs.take (i + 1)).flatten = (xs.take i).flatten ++ x := fun i x hx => by
      rw [List.take_add_one, hx, List.flatten_append]; simp
    have hle : ∀ i, (xs.take i).flatten.length ≤ 16777216 := fun i => by
      have : xs.flatten = (xs.take i).flatten ++ (xs.drop i).flatten := by rw [← List.flatten_append, List.take_append_drop]
      rw [this, List.length_append] at hz; omega
    refine st_forIt (X1 := X) hpos sx rfl nXI nF hZ (ev_var rfl rfl rfl) (fun i => [("value", tBytes.at (xs.take i).flatten), ("function", bVal (.ref 192))]) ⟨?_, rfl, trivial⟩ (.inl rfl) ?_ ?_ (fun _ => rfl) rfl
    · rw [ht 0 x0 hx0]; simp
    · intro i x s' hx sx
      have h1 := hle (i + 1)
      rw [ht i x hx, List.length_append] at h1
      refine st_assign sx (ev_call (ev_var rfl rfl rfl) (evs_cons (ev_var rfl rfl rfl) (evs_cons (ev_var rfl rfl rfl) evs_nil fun _ => rfl) fun _ => rfl) (fn_join W h1) (Nat.le_refl _) fun _ => rfl) (hIt_off nF fun a fa => sx.cx.fr.fa_x fa) (.inl rfl) rfl fun s sx => st_nil ⟨.inl rfl, ?_⟩
      rw [ht i x hx]
      exact sx.sub ⟨rfl, rfl, trivial⟩
    · intro s sx
      rw [List.take_length] at sx
      exact st_return sx (ev_var rfl rfl rfl) hX fun v s' => retOk
end
end Mine
end

section
namespace Mine
set_option linter.unusedVariables false
set_option linter.unusedSimpArgs false
section
variable {α : Type} [DecidableEq α]
def isCand (rows : List (List α)) (c : α) : Bool := rows.all fun r => !(r.tail.contains c)
def candOf (rows : List (List α)) (r : List α) : Option α := r.head?.bind fun c => if isCand rows c then some c else none
def cand (rows : List (List α)) : Option α := rows.findSome? (candOf rows)
def adv (c : α) : List α → List α
  | [] => []
  | h :: t => if h = c then t else h :: t
/-- the merge: at most n placings -/
def c3f : Nat → List (List α) → List α → Option (Option (List α) × List (List α))
  | 0, _, _ => none
  | n + 1, rows, acc => if rows.all List.isEmpty then some (some acc, rows) else match cand rows with
    | none => some (none, rows)
    | some c => c3f n (rows.map (adv c)) (acc ++ [c])

def aheadOk (ready l : List α) (p : α) : Prop := ∀ i, l[i]? = some p → ∀ q ∈ l.take i, q ∈ ready
def left (ready l : List α) : List α := l.filter fun p => !ready.contains p
theorem mem_left {ready l : List α} {p : α} : p ∈ left ready l ↔ p ∈ l ∧ p ∉ ready := by
  unfold left; rw [List.mem_filter]; simp
theorem ahead_iff {ready : List α} {p : α} (hp : p ∉ ready) : ∀ l : List α, aheadOk ready l p ↔ p ∉ (left ready l).tail
  | [] => by simp [aheadOk, left]
  | a :: l => by
    have ih := ahead_iff hp l
    by_cases ha : a ∈ ready
    · have e : left ready (a :: l) = left ready l := by unfold left; rw [List.filter_cons]; simp [ha]
      rw [e, ← ih]
      constructor
      · intro h i hi q hq
        exact h (i + 1) (by simpa using hi) q (by simp [hq])
      · intro h i hi q hq
        cases i with
        | zero =>
          simp at hi; subst hi; exact absurd ha hp
        | succ i =>
          rcases List.mem_cons.mp (by simpa using hq) with rfl | hq
          · exact ha
          · exact h i (by simpa using hi) q hq
    · have e : left ready (a :: l) = a :: left ready l := by unfold left; rw [List.filter_cons]; simp [ha]
      rw [e, List.tail_cons, mem_left]
      constructor
      · rintro h ⟨hm, _⟩
        obtain ⟨i, hi, hv⟩ := List.mem_iff_getElem.mp hm
        exact ha (h (i + 1) (by simp [hi, hv]) a (by simp))
      · intro h i hi q hq
        cases i with
        | zero => simp at hq
        | succ i =>
          have : p ∈ l := List.mem_of_getElem? (by simpa using hi)
          exact absurd ⟨this, hp⟩ h
theorem left_head {ready l : List α} {p : α} (h1 : p ∈ left ready l) (h2 : p ∉ (left ready l).tail) : (left ready l).head? = some p := by
  cases h : left ready l with
  | nil => rw [h] at h1; simp at h1
  | cons a r =>
    rw [h] at h1 h2
    rcases List.mem_cons.mp h1 with rfl | h1
    · rfl
    · exact absurd h1 h2
/-- what is free -/
def IsFree (lines : List (List α)) (ready : List α) (p : α) : Prop := (∃ l ∈ lines, p ∈ l) ∧ p ∉ ready ∧ ∀ l ∈ lines, aheadOk ready l p
theorem isCand_iff {rows : List (List α)} {c : α} : isCand rows c = true ↔ ∀ r ∈ rows, c ∉ r.tail := by
  unfold isCand; rw [List.all_eq_true]; simp
theorem free_iff {lines : List (List α)} {ready : List α} {p : α} : IsFree lines ready p ↔ (∃ l ∈ lines, (left ready l).head? = some p) ∧ isCand (lines.map (left ready)) p = true := by
  rw [isCand_iff]
  constructor
  · rintro ⟨⟨l, hl, hp⟩, hr, ha⟩
    refine ⟨⟨l, hl, left_head (mem_left.mpr ⟨hp, hr⟩) ((ahead_iff hr l).mp (ha l hl))⟩, fun r hr' => ?_⟩
    obtain ⟨l', hl', rfl⟩ := List.mem_map.mp hr'
    exact (ahead_iff hr l').mp (ha l' hl')
  · rintro ⟨⟨l, hl, hh⟩, hc⟩
    have hm : p ∈ left ready l := List.mem_of_head? hh
    obtain ⟨h1, h2⟩ := mem_left.mp hm
    exact ⟨⟨l, hl, h1⟩, h2, fun l' hl' => (ahead_iff h2 l').mpr (hc _ (List.mem_map_of_mem hl'))⟩
theorem adv_left {ready : List α} {c : α} {l : List α} (h : c ∉ (left ready l).tail) : adv c (left ready l) = left (ready ++ [c]) l := by
  have e : left (ready ++ [c]) l = (left ready l).filter fun p => !decide (p = c) := by
    unfold left
    rw [List.filter_filter]
    congr 1; funext p
    simp [Bool.and_comm]
  rw [e]
  cases hl : left ready l with
  | nil => rfl
  | cons a r =>
    rw [hl] at h
    simp only [List.tail_cons] at h
    have hr : r.filter (fun p => !decide (p = c)) = r := List.filter_eq_self.mpr fun q hq => by
      have : q ≠ c := fun e => h (e ▸ hq)
      simp [this]
    unfold adv
    rw [List.filter_cons, hr]
    by_cases q : a = c <;> simp [q]
def fstOf (lines : List (List α)) (p : α) : Nat := lines.findIdx fun l => l.contains p
theorem fst_le {lines : List (List α)} {p : α} {j : Nat} {l : List α} (h : lines[j]? = some l) (hp : p ∈ l) : fstOf lines p ≤ j := by
  unfold fstOf
  obtain ⟨hj, hv⟩ := List.getElem?_eq_some_iff.mp h
  refine Nat.le_of_not_lt fun hlt => ?_
  have := List.not_of_lt_findIdx hlt
  rw [hv] at this
  simp [hp] at this
theorem fst_get {lines : List (List α)} {p : α} (h : ∃ l ∈ lines, p ∈ l) : ∃ l, lines[fstOf lines p]? = some l ∧ p ∈ l := by
  obtain ⟨l, hl, hp⟩ := h
  have hlt : fstOf lines p < lines.length := List.findIdx_lt_length_of_exists ⟨l, hl, by simp [hp]⟩
  refine ⟨lines[fstOf lines p], List.getElem?_eq_getElem hlt, ?_⟩
  have := List.findIdx_getElem (w := hlt)
  simpa [fstOf] using this
/-- the candidate is the free one whose first line comes first -/
theorem cand_some {lines : List (List α)} {ready : List α} {c : α} (h : cand (lines.map (left ready)) = some c) : IsFree lines ready c ∧ ∀ p, IsFree lines ready p → fstOf lines c ≤ fstOf lines p ∧ (fstOf lines p = fstOf lines c → p = c) := by
  unfold cand at h
  obtain ⟨pre, r, post, e, hr, hpre⟩ := List.findSome?_eq_some_iff.mp h
  unfold candOf at hr
  obtain ⟨c', hc', hr⟩ := Option.bind_eq_some_iff.mp hr
  by_cases hcand : isCand (lines.map (left ready)) c' = true
  · rw [if_pos hcand] at hr
    obtain rfl : c' = c := Option.some.inj hr
    have hj : (lines.map (left ready))[pre.length]? = some r := by rw [e]; simp
    rw [List.getElem?_map] at hj
    obtain ⟨l, hl, rfl⟩ := Option.map_eq_some_iff.mp hj
    have hfree : IsFree lines ready c' := free_iff.mpr ⟨⟨l, List.mem_of_getElem? hl, hc'⟩, hcand⟩
    have low : ∀ p, IsFree lines ready p → pre.length ≤ fstOf lines p := by
      intro p hp
      obtain ⟨l', hl', hpl⟩ := fst_get hp.1
      refine Nat.le_of_not_lt fun hlt => ?_
      have hrow : left ready l' ∈ pre := by
        have : (lines.map (left ready))[fstOf lines p]? = some (left ready l') := by rw [List.getElem?_map, hl']; rfl
        rw [e, List.getElem?_append_left hlt] at this
        exact List.mem_of_getElem? this
      have hno := hpre _ hrow
      have hm : p ∈ left ready l' := mem_left.mpr ⟨hpl, hp.2.1⟩
      have ht := (ahead_iff hp.2.1 l').mp (hp.2.2 l' (List.mem_of_getElem? hl'))
      have hh := left_head hm ht
      have hcp := (free_iff.mp hp).2
      unfold candOf at hno
      rw [hh] at hno
      simp only [Option.bind_some] at hno
      rw [if_pos hcp] at hno
      cases hno
    have up : fstOf lines c' ≤ pre.length := fst_le hl (mem_left.mp (List.mem_of_head? hc')).1
    have eqc : fstOf lines c' = pre.length := Nat.le_antisymm up (low c' hfree)
    refine ⟨hfree, fun p hp => ⟨eqc ▸ low p hp, fun q => ?_⟩⟩
    obtain ⟨l', hl', hpl⟩ := fst_get hp.1
    rw [q, eqc, hl] at hl'
    cases hl'
    have hm : p ∈ left ready l := mem_left.mpr ⟨hpl, hp.2.1⟩
    have ht := (ahead_iff hp.2.1 l).mp (hp.2.2 l (List.mem_of_getElem? hl))
    have hh := left_head hm ht
    rw [hc'] at hh
    exact (Option.some.inj hh).symm
  · rw [if_neg hcand] at hr; cases hr
theorem cand_none {lines : List (List α)} {ready : List α} (h : cand (lines.map (left ready)) = none) : ∀ p, ¬ IsFree lines ready p := by
  intro p hp
  obtain ⟨⟨l, hl, hh⟩, hc⟩ := free_iff.mp hp
  unfold cand at h
  rw [List.findSome?_eq_none_iff] at h
  have := h _ (List.mem_map_of_mem hl)
  unfold candOf at this
  rw [hh] at this
  simp only [Option.bind_some] at this
  rw [if_pos hc] at this
  cases this
/-- the told order: at most n placings; sel picks of the free ones -/
def tlf (lines : List (List α)) (free : List α → List α) (sel : List α → α) : Nat → List α → Option (List α)
  | 0, _ => none
  | n + 1, ready => if free ready = [] then some ready else tlf lines free sel n (ready ++ [sel (free ready)])
theorem nodup_len : ∀ {l : List α} {u : List α}, l.Nodup → (∀ x ∈ l, x ∈ u) → l.length ≤ u.length
  | [], _, _, _ => Nat.zero_le _
  | x :: l, u, h1, h2 => by
    obtain ⟨h3, h4⟩ := List.nodup_cons.mp h1
    have hx := h2 x (by simp)
    have := nodup_len (u := u.erase x) h4 fun y hy => (List.mem_erase_of_ne (show y ≠ x from fun e => h3 (by rw [← e]; exact hy))).mpr (h2 y (by simp [hy]))
    rw [List.length_erase_of_mem hx] at this
    have : 0 < u.length := List.length_pos_of_mem hx
    simp only [List.length_cons]
    omega
/-- the merge and the told order go in step -/
theorem c3_told {lines : List (List α)} {free : List α → List α} {sel : List α → α} {u : List α} (hu : u.Nodup) (hin : ∀ l ∈ lines, ∀ p ∈ l, p ∈ u) (hall : ∀ p ∈ u, ∃ l ∈ lines, p ∈ l)
    (hfree : ∀ ready p, p ∈ free ready ↔ IsFree lines ready p) (hsel : ∀ fs, fs ≠ [] → sel fs ∈ fs ∧ ∀ p ∈ fs, fstOf lines (sel fs) ≤ fstOf lines p) :
    ∀ (n : Nat) (ready : List α), ready.Nodup → (∀ p ∈ ready, p ∈ u) → u.length < n + ready.length →
      ∃ r, tlf lines free sel n ready = some r ∧ r.Nodup ∧ (∀ p ∈ r, p ∈ u) ∧ c3f n (lines.map (left ready)) ready = some (if r.length = u.length then some r else none, lines.map (left r))
  | 0, ready, h1, h2, h3 => by have := nodup_len h1 h2; omega
  | n + 1, ready, h1, h2, h3 => by
    unfold tlf c3f
    have done : free ready = [] → ∃ r, some ready = some r ∧ r.Nodup ∧ (∀ p ∈ r, p ∈ u) ∧ (if (lines.map (left ready)).all List.isEmpty = true then some (some ready, lines.map (left ready)) else match cand (lines.map (left ready)) with
        | none => some (none, lines.map (left ready))
        | some c => c3f n ((lines.map (left ready)).map (adv c)) (ready ++ [c])) = some (if r.length = u.length then some r else none, lines.map (left r)) := by
      intro hf
      refine ⟨ready, rfl, h1, h2, ?_⟩
      by_cases he : (lines.map (left ready)).all List.isEmpty = true
      · rw [if_pos he]
        have hsub : ∀ p ∈ u, p ∈ ready := fun p hp => by
          obtain ⟨l, hl, hpl⟩ := hall p hp
          by_cases hr : p ∈ ready
          · exact hr
          · have := List.all_eq_true.mp he _ (List.mem_map_of_mem hl)
            have hm : p ∈ left ready l := mem_left.mpr ⟨hpl, hr⟩
            rw [List.isEmpty_iff.mp this] at hm; simp at hm
        have e1 := nodup_len hu hsub
        have e2 := nodup_len h1 h2
        rw [if_pos (by omega)]
      · rw [if_neg he]
        cases hc : cand (lines.map (left ready)) with
        | some c =>
          have := (hfree ready c).mpr (cand_some hc).1
          rw [hf] at this; simp at this
        | none =>
          have hne : ready.length ≠ u.length := by
            intro e
            apply he
            rw [List.all_eq_true]
            intro r hr
            obtain ⟨l, hl, rfl⟩ := List.mem_map.mp hr
            rw [List.isEmpty_iff]
            cases hq : left ready l with
            | nil => rfl
            | cons p t =>
              have hm : p ∈ left ready l := by rw [hq]; simp
              obtain ⟨m1, m2⟩ := mem_left.mp hm
              have := nodup_len (l := p :: ready) (u := u) (List.nodup_cons.mpr ⟨m2, h1⟩) (fun x hx => by
                rcases List.mem_cons.mp hx with rfl | hx
                · exact hin l hl _ m1
                · exact h2 x hx)
              simp at this; omega
          rw [if_neg hne]
    by_cases hf : free ready = []
    · rw [if_pos hf]; exact done hf
    · rw [if_neg hf]
      obtain ⟨hs1, hs2⟩ := hsel _ hf
      have hfr := (hfree ready _).mp hs1
      cases hc : cand (lines.map (left ready)) with
      | none => exact absurd hfr (cand_none hc _)
      | some c =>
        obtain ⟨c1, c2⟩ := cand_some hc
        have heq : sel (free ready) = c := by
          obtain ⟨q1, q2⟩ := c2 _ hfr
          have q3 := hs2 c ((hfree ready c).mpr c1)
          exact q2 (Nat.le_antisymm q3 q1)
        have hne : ¬ (lines.map (left ready)).all List.isEmpty = true := by
          intro he
          obtain ⟨⟨l, hl, hh⟩, _⟩ := free_iff.mp c1
          have := List.all_eq_true.mp he _ (List.mem_map_of_mem hl)
          rw [List.isEmpty_iff.mp this] at hh; cases hh
        rw [if_neg hne, heq]
        have hrows : (lines.map (left ready)).map (adv c) = lines.map (left (ready ++ [c])) := by
          rw [List.map_map]
          refine List.map_congr_left fun l hl => ?_
          exact adv_left ((ahead_iff c1.2.1 l).mp (c1.2.2 l hl))
        simp only [hrows]
        refine c3_told hu hin hall hfree hsel n (ready ++ [c]) ?_ ?_ ?_
        · rw [List.nodup_append]; refine ⟨h1, by simp, ?_⟩
          intro a ha b hb e
          simp at hb; subst hb; subst e; exact c1.2.1 ha
        · intro p hp
          rcases List.mem_append.mp hp with hp | hp
          · exact h2 p hp
          · simp at hp; subst hp
            obtain ⟨l, hl, hpl⟩ := c1.1
            exact hin l hl p hpl
        · simp; omega
end
section
variable {α β : Type} [DecidableEq α] [DecidableEq β]
/-- the merge under other names -/
theorem c3_map {u : α → Prop} {f : α → β} (hf : ∀ x y, u x → u y → f x = f y → x = y) : ∀ (n : Nat) (rows : List (List α)) (acc : List α), (∀ r ∈ rows, ∀ x ∈ r, u x) →
    c3f n (rows.map (·.map f)) (acc.map f) = (c3f n rows acc).map fun q => (q.1.map (·.map f), q.2.map (·.map f))
  | 0, _, _, _ => rfl
  | n + 1, rows, acc, h => by
    have hE : (rows.map (·.map f)).all List.isEmpty = rows.all List.isEmpty := by
      rw [List.all_map]; congr 1; funext r; cases r <;> rfl
    have hC : ∀ c, u c → isCand (rows.map (·.map f)) (f c) = isCand rows c := by
      intro c hc
      rw [Bool.eq_iff_iff, isCand_iff, isCand_iff]
      constructor
      · intro h' r hr hm
        refine h' _ (List.mem_map_of_mem hr) ?_
        rw [← List.map_tail]
        exact List.mem_map_of_mem hm
      · intro h' r hr hm
        obtain ⟨r', hr', rfl⟩ := List.mem_map.mp hr
        rw [← List.map_tail] at hm
        obtain ⟨x, hx, e⟩ := List.mem_map.mp hm
        have := hf x c (h r' hr' x (List.mem_of_mem_tail hx)) hc e
        subst this
        exact h' r' hr' hx
    have hcd : ∀ rs : List (List α), (∀ r ∈ rs, r ∈ rows) → (rs.map (·.map f)).findSome? (candOf (rows.map (·.map f))) = (rs.findSome? (candOf rows)).map f := by
      intro rs
      induction rs with
      | nil => intro _; rfl
      | cons r rs ih =>
        intro hrs
        have hr := hrs r (by simp)
        have e : candOf (rows.map (·.map f)) (r.map f) = (candOf rows r).map f := by
          unfold candOf
          cases r with
          | nil => rfl
          | cons a t =>
            simp only [List.map_cons, List.head?_cons, Option.bind_some]
            rw [hC a (h _ hr a (by simp))]
            split <;> rfl
        rw [List.map_cons, List.findSome?_cons, List.findSome?_cons, e]
        cases candOf rows r with
        | none => exact ih fun r hr => hrs r (by simp [hr])
        | some c => rfl
    have hcd : cand (rows.map (·.map f)) = (cand rows).map f := hcd rows fun _ h => h
    unfold c3f
    rw [hE, hcd]
    by_cases he : rows.all List.isEmpty = true
    · rw [if_pos he, if_pos he]; rfl
    · rw [if_neg he, if_neg he]
      cases hc : cand rows with
      | none => rfl
      | some c =>
        have hcu : u c := by
          unfold cand at hc
          obtain ⟨pre, r, post, e, hr, _⟩ := List.findSome?_eq_some_iff.mp hc
          unfold candOf at hr
          obtain ⟨c', hc', hr⟩ := Option.bind_eq_some_iff.mp hr
          split at hr
          · cases hr; exact h r (by rw [e]; simp) c (List.mem_of_head? hc')
          · cases hr
        have hadv : ∀ r ∈ rows, adv (f c) (r.map f) = (adv c r).map f := by
          intro r hr
          cases r with
          | nil => rfl
          | cons a t =>
            unfold adv
            simp only [List.map_cons]
            by_cases q : a = c
            · rw [if_pos q, if_pos (by rw [q])]
            · rw [if_neg q, if_neg fun e => q (hf a c (h _ hr a (by simp)) hcu e)]; rfl
        have hrows : (rows.map (·.map f)).map (adv (f c)) = (rows.map (adv c)).map (·.map f) := by
          rw [List.map_map, List.map_map]
          exact List.map_congr_left fun r hr => hadv r hr
        have := c3_map hf n (rows.map (adv c)) (acc ++ [c]) (fun r hr x hx => by
          obtain ⟨r', hr', rfl⟩ := List.mem_map.mp hr
          refine h r' hr' x ?_
          cases r' with
          | nil => exact hx
          | cons a t =>
            have hx' : x ∈ (if a = c then t else a :: t) := hx
            split at hx'
            · simp [hx']
            · exact hx')
        simp only [Option.map_some]
        rw [hrows, ← this, List.map_append]; rfl
end
end Mine
end

section
open PySem PySem.W PyProof.Rows PySem.SeqAt
namespace Mine
set_option linter.unusedVariables false
theorem beq_dec (a b : List UInt8) : (a == b) = decide (a = b) := by rw [Bool.eq_iff_iff]; simp
theorem eqAt_bytes {A : Around} {s : Shared} {a b : List UInt8} {t u : Tok} : EqAt A s (.bytes a.toArray t) (.bytes b.toArray u) (decide (a = b)) := by
  intro prog w E Q hq
  unfold eqBool
  refine wpAny_holding ?_
  refine wpAny_ite_split (fun e => ?_) (fun _ => ?_)
  · have := eq_of_beq e
    injection this with h1 _
    have h2 := congrArg Array.toList h1
    rw [decide_eq_true (by simpa using h2)] at hq
    exact wpAny_bind (wpAny_rule (wpAny_pure hq))
  · refine wpAny_bind (eq_bytes (Q := fun v s' => wpAny (model prog w) A (truthOfDropped v) Q E s') ?_)
    refine wpAny_truthy_bool ?_
    rw [show (a.toArray.toList == b.toArray.toList) = decide (a = b) from beq_dec a b]; exact hq
theorem eqAt_int {A : Around} {s : Shared} {a b : Int} {t u : Tok} : EqAt A s (.int a t) (.int b u) (decide (a = b)) := (PySem.MeetsSeq.EqGives.int a b t u).at A s
/-- equal data compare equal -/
def TEq {α : Type} (t : Ty α) (k : Nat) : Prop := ∀ (A : Around) (s : Shared) (Y1 Y2 : XS) (v1 v2 : Value) (x : α), A.units + k < cLine → t.rel Y1 s.heap v1 x → t.rel Y2 s.heap v2 x → EqAt A s v1 v2 true
section
variable {α β : Type} {t : Ty α} {u : Ty β}
theorem teq_bytes {k : Nat} : TEq tBytes k := by
  rintro A s Y1 Y2 v1 v2 x hu ⟨t1, rfl⟩ ⟨t2, rfl⟩
  have := @eqAt_bytes A s x x t1 t2
  rwa [decide_eq_true rfl] at this
theorem rc_list {k : Nat} {A : Around} {s : Shared} {Y1 Y2 : XS} {v1 v2 : Value} {xs : List α} (h : TEq t k) (hu : A.units + (k + 16) < cLine) (r1 : (tList t).rel Y1 s.heap v1 xs) (r2 : (tList t).rel Y2 s.heap v2 xs) :
    ∃ a b, v1 = .ref a ∧ v2 = .ref b ∧ ∃ (is js : Array Value), s.heap.IsList a is ∧ s.heap.IsList b js ∧ is.size = js.size ∧ ∀ j (h1 : j < is.size) (h2 : j < js.size), EqAt A.in1 s is[j] js[j] true := by
  obtain ⟨a, vs, rfl, _, l1, q1⟩ := r1
  obtain ⟨b, ws, rfl, _, l2, q2⟩ := r2
  refine ⟨a, b, rfl, rfl, vs.toArray, ws.toArray, l1, l2, by simp [q1.length, q2.length], fun j h1 h2 => ?_⟩
  simp only [List.size_toArray] at h1 h2
  obtain ⟨x, hx, hr⟩ := q1.get (List.getElem?_eq_getElem h1)
  obtain ⟨x', hx', hr'⟩ := q2.get (List.getElem?_eq_getElem h2)
  rw [hx] at hx'; cases hx'
  exact h A.in1 s Y1 Y2 _ _ x (by simp only [Around.in1]; omega) hr hr'
theorem teq_list {k : Nat} (h : TEq t k) : TEq (tList t) (k + 16) := by
  intro A s Y1 Y2 v1 v2 xs hu r1 r2
  obtain ⟨a, b, rfl, rfl, is, js, l1, l2, hsz, he⟩ := rc_list h hu r1 r2
  by_cases e : a = b
  · subst e; exact EqAt.same _
  · have := RcAt.lists (e := fun _ => true) l1 l2 hsz (by omega) he
    rw [List.all_eq_true.mpr (fun _ _ => rfl)] at this
    exact EqAt.of_refs e this
theorem teq_opt {k : Nat} (h : TEq t k) : TEq (tOpt t) k := by
  intro A s Y1 Y2 v1 v2 x hu r1 r2
  cases x with
  | none => obtain rfl := r1; obtain rfl := r2; exact EqAt.same _
  | some y => exact h A s Y1 Y2 v1 v2 y hu r1 r2
variable {prog : Program} {w : World} {H0 : Heap} {g : Γ} {Y1 Y2 Y : XS}
theorem op_neL {k : Nat} {xs : List α} (h : TEq t k) (hk : k ≤ 40) : OpOk prog w H0 g (compareOp .NotEq) Y1 ((tList t).at xs) Y2 ((tList t).at xs) Y (tBool.at false) := by
  intro s v1 v2 E c r1 r2
  have hu := c.ok.un
  obtain ⟨a, b, rfl, rfl, is, js, l1, l2, hsz, he⟩ := rc_list (A := g.A) h (by omega) r1 r2
  have := RcNeAt.lists (e := fun _ => true) l1 l2 hsz (by omega) he
  rw [List.all_eq_true.mpr (fun _ _ => rfl)] at this
  exact this prog w E _ ⟨Keeps.refl s, rfl⟩
theorem op_ne2 {k : Nat} {x : α × β} (h1 : TEq t k) (h2 : TEq u k) (hk : k ≤ 40) : OpOk prog w H0 g (compareOp .NotEq) Y1 ((tTwo t u).at x) Y2 ((tTwo t u).at x) Y (tBool.at false) := by
  intro s v1 v2 E c r1 r2
  have hu := c.ok.un
  obtain ⟨a, p1, p2, rfl, _, l1, q1, q2⟩ := r1
  obtain ⟨b, w1, w2, rfl, _, l2, z1, z2⟩ := r2
  have := RcNeAt.lists (A := g.A) (e := fun _ => true) l1 l2 rfl (by omega) (fun j hj1 hj2 => by
    have hj : j < 2 := hj1
    match j, hj with
    | 0, _ => exact h1 g.A.in1 s Y1 Y2 _ _ x.1 (by simp only [Around.in1]; omega) q1 z1
    | 1, _ => exact h2 g.A.in1 s Y1 Y2 _ _ x.2 (by simp only [Around.in1]; omega) q2 z2)
  rw [List.all_eq_true.mpr (fun _ _ => rfl)] at this
  exact this prog w E _ ⟨Keeps.refl s, rfl⟩
/-- x in a list of ints -/
theorem any_int {X : XS} {h : Heap} {x : Int} : ∀ {vs : List Value} {ns : List Int}, All2 (fun v n => tInt.rel X h v n) vs ns → vs.any (fun v => match v with | .int a _ => decide (a = x) | _ => false) = ns.contains x
  | _, _, .nil => rfl
  | _, _, .cons (b := n) ⟨t, e⟩ r => by
    subst e
    rw [List.any_cons, any_int r, List.contains_cons]
    congr 1
    show decide (n = x) = (x == n)
    rw [show (x == n) = decide (x = n) from rfl]
    congr 1; exact propext eq_comm
theorem op_inInt {x : Int} {ns : List Int} : OpOk prog w H0 g (compareOp .In) Y1 (tInt.at x) Y2 ((tList tInt).at ns) Y (tBool.at (ns.contains x)) := by
  rintro s v1 v2 E c ⟨t, rfl⟩ ⟨a, vs, rfl, _, l, r⟩
  refine in_listAt (fun v => match v with | .int a _ => decide (a = x) | _ => false) l (fun y hy => ?_) ⟨Keeps.refl s, ?_⟩
  · obtain ⟨i, hi, rfl⟩ := List.mem_iff_getElem.mp (show y ∈ vs by simpa using hy)
    obtain ⟨n, _, t', e⟩ := r.get (List.getElem?_eq_getElem hi)
    rw [e]; exact eqAt_int
  · show Value.bool _ = Value.bool _
    rw [← any_int r]; simp
theorem op_notInInt {x : Int} {ns : List Int} : OpOk prog w H0 g (compareOp .NotIn) Y1 (tInt.at x) Y2 ((tList tInt).at ns) Y (tBool.at (!ns.contains x)) := by
  rintro s v1 v2 E c ⟨t, rfl⟩ ⟨a, vs, rfl, _, l, r⟩
  refine notIn_listAt (fun v => match v with | .int a _ => decide (a = x) | _ => false) l (fun y hy => ?_) ⟨Keeps.refl s, ?_⟩
  · obtain ⟨i, hi, rfl⟩ := List.mem_iff_getElem.mp (show y ∈ vs by simpa using hy)
    obtain ⟨n, _, t', e⟩ := r.get (List.getElem?_eq_getElem hi)
    rw [e]; exact eqAt_int
  · show Value.bool _ = Value.bool _
    rw [← any_int r]; simp
theorem any_bytes {X : XS} {h : Heap} {x : List UInt8} : ∀ {vs : List Value} {ns : List (List UInt8)}, All2 (fun v n => tBytes.rel X h v n) vs ns → vs.any (fun v => match v with | .bytes a _ => decide (a.toList = x) | _ => false) = ns.contains x
  | _, _, .nil => rfl
  | _, _, .cons (b := n) ⟨t, e⟩ r => by
    subst e
    rw [List.any_cons, any_bytes r, List.contains_cons]
    congr 1
    show decide (n.toArray.toList = x) = (x == n)
    rw [beq_dec]
    congr 1; exact propext eq_comm
theorem op_inBytes {x : List UInt8} {ns : List (List UInt8)} : OpOk prog w H0 g (compareOp .In) Y1 (tBytes.at x) Y2 ((tList tBytes).at ns) Y (tBool.at (ns.contains x)) := by
  rintro s v1 v2 E c ⟨t, rfl⟩ ⟨a, vs, rfl, _, l, r⟩
  refine in_listAt (fun v => match v with | .bytes a _ => decide (a.toList = x) | _ => false) l (fun y hy => ?_) ⟨Keeps.refl s, ?_⟩
  · obtain ⟨i, hi, rfl⟩ := List.mem_iff_getElem.mp (show y ∈ vs by simpa using hy)
    obtain ⟨n, _, t', e⟩ := r.get (List.getElem?_eq_getElem hi)
    rw [e]; exact eqAt_bytes
  · show Value.bool _ = Value.bool _
    rw [← any_bytes r]; simp
end
end Mine
end

section
open PySem PySem.W PyProof.Rows
namespace Mine
set_option linter.unusedVariables false
/-- values that are new objects, all unlike -/
inductive NewRefs (h1 h : Heap) (X : XS) : List Value → Prop
  | nil : NewRefs h1 h X []
  | snoc' {ys a} : NewRefs h1 h X ys → h1.get? a = none → ¬ X a → (∃ o, h.get? a = some o) → Value.ref a ∉ ys → NewRefs h1 h X (ys ++ [.ref a])
theorem NewRefs.snoc {h1 h : Heap} {X : XS} {ys : List Value} {a : Addr} (x : NewRefs h1 h X ys) (e1 : h1.get? a = none) (na : ¬ X a) (e2 : ∃ o, h.get? a = some o) (hn : Value.ref a ∉ ys) : NewRefs h1 h X (ys ++ [.ref a]) := .snoc' x e1 na e2 hn
theorem NewRefs.kx {h1 h h' : Heap} {X : XS} {ys : List Value} (x : NewRefs h1 h X ys) (k : Kx X X h h') : NewRefs h1 h' X ys := by
  induction x with
  | nil => exact .nil
  | snoc' _ e1 na e2 hn ih => obtain ⟨o, e⟩ := e2; exact .snoc' ih e1 na ⟨o, (k _ o na e).2⟩ hn
theorem NewRefs.all {h1 h : Heap} {X : XS} {ys : List Value} (x : NewRefs h1 h X ys) : ∀ a, Value.ref a ∈ ys → h1.get? a = none ∧ ¬ X a ∧ ∃ o, h.get? a = some o := by
  induction x with
  | nil => intro a h; cases h
  | snoc' _ e1 na e2 hn ih =>
    intro b hb
    rcases List.mem_append.mp hb with hb | hb
    · exact ih b hb
    · have := List.mem_singleton.mp hb; cases this; exact ⟨e1, na, e2⟩
theorem NewRefs.refs {h1 h : Heap} {X : XS} {ys : List Value} (x : NewRefs h1 h X ys) : ∃ as : List Addr, ys = as.map Value.ref ∧ as.Nodup ∧ ∀ a ∈ as, h1.get? a = none ∧ ¬ X a := by
  induction x with
  | nil => exact ⟨[], rfl, List.nodup_nil, by simp⟩
  | @snoc' ys a _ e1 na e2 hn ih =>
    obtain ⟨as, rfl, nd, hh⟩ := ih
    refine ⟨as ++ [a], by simp, ?_, fun b hb => ?_⟩
    · rw [List.nodup_append]
      refine ⟨nd, by simp, fun c hc d hd e => ?_⟩
      simp at hd; subst hd; subst e
      exact hn (List.mem_map_of_mem hc)
    · rcases List.mem_append.mp hb with hb | hb
      · exact hh b hb
      · simp at hb; subst hb; exact ⟨e1, na⟩
/-- an expression that gives a new object -/
def EvN (prog : Program) (w : World) (H0 : Heap) (g : Γ) (Y : XS) (e : Expr) (b : Bd) : Prop :=
  ∀ s, Cx H0 g s → ∀ E, wpAny (model prog w) g.A (eval e g.env) (fun v s' => Keeps s s' ∧ b.rel Y s'.heap v ∧ ∃ a, v = .ref a ∧ s.heap.get? a = none) E s
section
variable {prog : Program} {w : World} {H0 : Heap} {g : Γ} {α β : Type} {t : Ty β}
/-- a comprehension's loop -/
theorem comp_coreN {elt iter : Expr} {x : Str} {px pos : Pos} {ifs : List Expr} {scope : Scope} {xs : List α} {bnd : α → Bd} {p : α → Bool} {f : α → List β}
    (ok : CompOk scope g.env x) (hsz : xs.length ≤ 16777216)
    (hq : ∀ z ∈ xs, ∀ (X' : XS) (C : Addr), (∀ a, g.X a → X' a) → TsL prog w H0 (gC g X' scope C x (bnd z)) ifs (p z) ∧ (p z = true → EvN prog w H0 (gC g X' scope C x (bnd z)) X' elt ((tList t).at (f z))))
    {s₁ s₂ : Shared} (c₁ : Cx H0 g s₁) (k12 : Keeps s₁ s₂) {I : Addr} {St : Nat → Heap → Prop} {P : Nat → Value → Prop} {fp : List Addr} (hI : s₁.heap.get? I = none)
    (W : Walks prog w g.A I fp [I] (xs.map bnd).length P St) (hst : St 0 s₂.heap) (hIf : ∀ h i, St i h → ∃ o fs, h.get? I = some o ∧ o.data = .fields fs) (hfp : ∀ a ∈ fp, a = I ∨ (¬ g.X a ∧ ∃ o, s₁.heap.get? a = some o))
    (hit : ∀ i v X' h bi, (xs.map bnd)[i]? = some bi → P i v → Kx g.X X' s₁.heap h → bi.rel X' h v)
    {E : Value → Shared → Prop} {RR : Value → Addr → Result → Shared → Prop}
    (hR : ∀ D C s' m', Keeps s₁ s' → s₁.heap.get? D = none → s₁.heap.get? C = none → D ≠ C → s'.heap.Ns C m' → (∃ X', (∀ a, g.X a → X' a) ∧ X' C ∧ ∃ as : List Addr, s'.heap.IsList D (as.map Value.ref).toArray ∧ as.Nodup ∧ (∀ a ∈ as, s₁.heap.get? a = none ∧ a ≠ D) ∧ ¬ X' D ∧ All2 (fun v z => (tList t).rel X' s'.heap v z) (as.map Value.ref) ((xs.filter p).map f)) → RR (.ref D) C (.ok .next) s') :
    wpAny (model prog w) g.A (newList []) (fun acc s₃ => wpAny (model prog w) g.A (newFunctionEnv scope g.env.globals (clos g.env.cells scope.names []) [] g.env.qual none .none (some g.env)) (fun cenv s₄ =>
      codeAny (model prog w) g.A (.compStart (.ListComp elt [⟨.Name x px, iter, ifs, 0⟩] scope pos) 0 (.ref I) acc { cenv with scope := relabel scope g.env }) (RR acc cenv.locals) s₄) E s₃) E s₂ := by
  have fresh2 : ∀ a, s₂.heap.objs.size ≤ a → s₁.heap.get? a = none := fun a h => Keep.none k12.keep (get_none_of_size h)
  refine wpAny_newObj_type (newCompEnv ?_)
  generalize hD : s₂.heap.objs.size = D
  have hs3 : (s₂.heap.push { cls := .type "list", dict := none, data := .seq ([] : List Value).toArray }).objs.size = D + 1 := by rw [Heap.size_push, hD]
  simp only [hs3]
  generalize hC : D + 1 = C
  -- the cells
  have okc := cellsFrom_ok scope.names ((s₂.heap.push { cls := .type "list", dict := none, data := .seq ([] : List Value).toArray }).push { cls := .type "dict", data := .dict #[] }) (C + 1) []
    ⟨fun _ _ hm => (nomatch hm), List.Pairwise.nil⟩ (by rw [Heap.size_push, hs3, hC]; exact Nat.le_refl _)
  rw [Heap.size_push, hs3, hC] at okc
  generalize hH4 : pushCells ((s₂.heap.push { cls := .type "list", dict := none, data := .seq ([] : List Value).toArray }).push { cls := .type "dict", data := .dict #[] }) scope.names = H4 at okc
  have keep24 : Keep s₂.heap H4 := fun b o e => hH4 ▸ pushCells_keeps _ _ b o (Heap.get?_push_of_some _ (Heap.get?_push_of_some _ e))
  have k14 : Keeps s₁ { s₂ with heap := H4 } := k12.trans ⟨H4, s₂.toks, rfl, keep24⟩
  have nsC : H4.Ns C fun _ => none := by
    have := (Heap.Ns.new (s₂.heap.push { cls := .type "list", dict := none, data := .seq ([] : List Value).toArray }) (.type "dict")).keeps (pushCells_keeps scope.names _)
    rw [hs3, hC, hH4] at this; exact this
  have lD : H4.IsList D #[] := by
    have := @isList_push_new s₂.heap #[]
    rw [hD] at this
    obtain ⟨o, ho, r⟩ := this
    exact ⟨o, hH4 ▸ pushCells_keeps _ _ _ _ (Heap.get?_push_of_some _ ho), r⟩
  have fD : s₁.heap.get? D = none := fresh2 D (by omega)
  have fC : s₁.heap.get? C = none := fresh2 C (by omega)
  have hDC : D ≠ C := by omega
  let own := cellsFrom (C + 1) scope.names []
  have fO : ∀ n c, (n, c) ∈ own → s₁.heap.get? c = none := fun n c hm => fresh2 c (by have := (okc.empty n c hm).2; omega)
  have ID' : I < D := by
    obtain ⟨o, fs, e, _⟩ := hIf _ _ hst
    exact hD ▸ Heap.lt_size e
  have ID : I ≠ D := Nat.ne_of_lt ID'
  have IC : I ≠ C := hC ▸ Nat.ne_of_lt (Nat.lt_succ_of_lt ID')
  -- what is the loop's own
  let X' : XS := fun a => g.X a ∨ a = I ∨ a = C ∨ ∃ n, (n, a) ∈ own
  let XD : XS := fun a => X' a ∨ a = D
  have newX : ∀ a, XD a → g.X a ∨ s₁.heap.get? a = none := by
    rintro a (((q | q | q | ⟨n, q⟩)) | q)
    · exact .inl q
    · exact .inr (q ▸ hI)
    · exact .inr (q ▸ fC)
    · exact .inr (fO n a q)
    · exact .inr (q ▸ fD)
  have kxD : ∀ {s' : Shared}, Keeps s₁ s' → Kx g.X XD s₁.heap s'.heap := by
    intro s' k b o n e
    refine ⟨fun q => ?_, k.keep b o e⟩
    rcases newX b q with q | q
    · exact n q
    · rw [q] at e; cases e
  have gXD : ∀ a, g.X a → XD a := fun a q => .inl (.inl q)
  have cl' : cellsFrom (C + 1) scope.names (clos g.env.cells scope.names []) = own ++ clos g.env.cells scope.names [] := cellsFrom_split ..
  have ce : ∀ n c, (envC scope C g.env).cells.lookup n = some c → (n, c) ∈ own ∨ g.env.cells.lookup n = some c := by
    intro n c e
    have e' : (cellsFrom (C + 1) scope.names (clos g.env.cells scope.names [])).lookup n = some c := e
    rw [cl'] at e'
    rcases List.mem_append.mp (mem_of_lookup e') with h | h
    · exact .inl h
    · rcases clos_mem _ _ ok.fr h with h | h
      · cases h
      · exact .inr h
  have freeMem : ∀ {n : Str}, scope.names.lookup n = some .free → (n, NameKind.free) ∈ scope.names := fun h => mem_of_lookup h
  have freeHas : ∀ {n : Str}, scope.names.lookup n = some .free → ∃ c, g.env.cells.lookup n = some c := by
    intro n h
    have := List.all_eq_true.mp ok.fr _ (freeMem h)
    simp only [bne_self_eq_false, Bool.false_or] at this
    exact Option.isSome_iff_exists.mp this
  have freeKind : ∀ {n : Str}, scope.names.lookup n = some .free → g.env.kindOf n ≠ some .local := by
    intro n h e
    have := List.all_eq_true.mp ok.fk _ (freeMem h)
    simp only [bne_self_eq_false, Bool.false_or, e] at this
    cases this
  have freeCell : ∀ {n : Str}, scope.names.lookup n = some .free → (envC scope C g.env).cells.lookup n = g.env.cells.lookup n := by
    intro n h
    show (cellsFrom (C + 1) scope.names (clos g.env.cells scope.names [])).lookup n = _
    rw [cellsFrom_not _ _ _ fun x hx e => by
      have : scope.names.lookup x.1 = some x.2 := lookup_of_mem_nd ok.nd hx
      rw [e, h] at this
      rw [← Option.some.inj this]; decide, clos_get _ _ ok.nd (freeMem h)]
    obtain ⟨c, hc⟩ := freeHas h
    rw [hc]; rfl
  have kindFree : ∀ {n : Str}, scope.names.lookup n = some .free → (envC scope C g.env).kindOf n = some .cell ∨ (envC scope C g.env).kindOf n = some .free := by
    intro n h
    have := relabel_lookup (env := g.env) (n := n) scope.names
    rw [h] at this
    show (relabel scope g.env).names.lookup n = _ ∨ (relabel scope g.env).names.lookup n = _
    rw [show (relabel scope g.env).names.lookup n = _ from this]
    simp only [Option.map_some]
    split
    · exact .inl rfl
    · exact .inr rfl
  have kindX : (envC scope C g.env).kindOf x = some .local ∨ ((envC scope C g.env).kindOf x = some .cell ∧ ((envC scope C g.env).cells.lookup x).isSome = true) := by
    have := relabel_lookup (env := g.env) (n := x) scope.names
    have e : (envC scope C g.env).kindOf x = (relabel scope g.env).names.lookup x := rfl
    rcases ok.tg with h | h
    · rw [h] at this
      exact .inl (e.trans this)
    · rw [h] at this
      refine .inr ⟨e.trans this, ?_⟩
      show ((cellsFrom (C + 1) scope.names (clos g.env.cells scope.names [])).lookup x).isSome = true
      exact cellsFrom_some _ _ _ (.inl h)
  let ρf := g.ρ.filter fun y => scope.names.lookup y.1 == some .free
  have ρfOk : ∀ {n : Str} {b : Bd}, ρf.lookup n = some b → g.ρ.lookup n = some b ∧ scope.names.lookup n = some .free := fun h => by
    obtain ⟨h1, h2⟩ := filter_lookup (p := fun y => scope.names.lookup y == some .free) h
    exact ⟨h1, by simpa using h2⟩
  obtain ⟨m1, hm1, hv1⟩ := c₁.fr.vars
  -- the frame at the loop's start
  have fr4 : Frame XD (envC scope C g.env) ρf H4 := by
    refine ⟨ok.kind, c₁.fr.gl, c₁.fr.bi, .inl (.inr (.inr (.inl rfl))), ⟨_, nsC, fun n b e => ?_⟩, fun n c e => ?_, ?_⟩
    · obtain ⟨h1, h2⟩ := ρfOk e
      obtain ⟨v, r, q⟩ := hv1 n b h1
      obtain ⟨c, hc⟩ := freeHas h2
      refine ⟨v, b.mono r (kxD k14), .inr ⟨kindFree h2, c, (freeCell h2).trans hc, ?_⟩⟩
      rcases q with ⟨q1, q2⟩ | ⟨q1, c', q2, q3⟩
      · exact absurd q1 (freeKind h2)
      · rw [hc] at q2; cases q2
        exact q3.keeps k14.keep
    · rcases ce n c e with h | h
      · exact ⟨.inl (.inr (.inr (.inr ⟨n, h⟩))), _, (okc.empty n c h).1⟩
      · obtain ⟨q, v, hv⟩ := c₁.fr.cells n c h
        exact ⟨gXD c q, v, hv.keeps k14.keep⟩
    · show (cellsFrom (C + 1) scope.names (clos g.env.cells scope.names [])).Pairwise _
      rw [cl']
      refine List.pairwise_append.mpr ⟨okc.apart, clos_apart c₁.fr.apart _ _ ok.fr ok.nd List.Pairwise.nil (fun _ h => nomatch h), fun y hy z hz e => ?_⟩
      rcases clos_mem (n := z.1) (c := z.2) _ _ ok.fr hz with h | h
      · cases h
      · obtain ⟨_, v, o, ho, _⟩ := c₁.fr.cells _ _ h
        have := fO y.1 y.2 hy
        rw [e, ho] at this; cases this
  have fa_x : ∀ {ρ : List (Str × Bd)} {h : Heap} {a : Addr}, Frame XD (envC scope C g.env) ρ h → Fa (envC scope C g.env) a → XD a := by
    rintro ρ h a fr (rfl | ⟨n, e⟩)
    · exact fr.xl
    · exact (fr.cells n a e).1
  have fpOk : ∀ a ∈ fp, a = I ∨ ¬ XD a ∧ ∃ o, s₁.heap.get? a = some o := by
    intro a ha
    rcases hfp a ha with q | ⟨q, o, e⟩
    · exact .inl q
    · refine .inr ⟨fun z => ?_, o, e⟩
      rcases newX a z with z | z
      · exact q z
      · rw [z] at e; cases e
  have hlen : (xs.map bnd).length = xs.length := by simp
  have live4 : Live XD H4 := by
    rintro a ((q | q | q | ⟨n, q⟩) | q)
    · obtain ⟨o, e⟩ := c₁.live a q; exact ⟨o, k14.keep a o e⟩
    · subst q; obtain ⟨o, fs, e, _⟩ := hIf _ _ hst; exact ⟨o, keep24 _ _ e⟩
    · subst q; obtain ⟨o, _, _, e, _⟩ := nsC; exact ⟨o, e⟩
    · obtain ⟨⟨o, e, _⟩, _⟩ := okc.empty n a q; exact ⟨o, e⟩
    · subst q; obtain ⟨o, e, _⟩ := lD; exact ⟨o, e⟩
  have targetNew : ∀ a, (a = (envC scope C g.env).locals ∨ (envC scope C g.env).cells.lookup x = some a) → s₁.heap.get? a = none := by
    rintro a (rfl | e)
    · exact fC
    · rcases kindX with hl | ⟨hc, _⟩
      · exfalso
        have e' : (cellsFrom (C + 1) scope.names (clos g.env.cells scope.names [])).lookup x = some a := e
        rcases ok.tg with h | h
        · have nf : ∀ y ∈ scope.names, y.1 = x → y.2 = .local := fun y hy e => by
            have := lookup_of_mem_nd ok.nd hy
            rw [e, h] at this; exact (Option.some.inj this).symm
          rw [cellsFrom_not _ _ _ fun y hy e => by rw [nf y hy e]; decide, clos_not _ _ fun y hy e => by rw [nf y hy e]; decide] at e'
          cases e'
        · have := relabel_lookup (env := g.env) (n := x) scope.names
          rw [h] at this
          have e2 : (envC scope C g.env).kindOf x = some .cell := this
          rw [hl] at e2; cases e2
      · have e' : (cellsFrom (C + 1) scope.names (clos g.env.cells scope.names [])).lookup x = some a := e
        rw [cl', List.lookup_append] at e'
        rcases ok.tg with h | h
        · have := relabel_lookup (env := g.env) (n := x) scope.names
          rw [h] at this
          have e2 : (envC scope C g.env).kindOf x = some .local := this
          rw [hc] at e2; cases e2
        · obtain ⟨c, hc⟩ := Option.isSome_iff_exists.mp (cellsFrom_some (x := x) scope.names (C + 1) [] (.inl h))
          rw [show own.lookup x = some c from hc] at e'
          cases e'
          exact fO x a (mem_of_lookup hc)
  have mkSx : ∀ {ρ : List (Str × Bd)} {s' : Shared}, Keeps s₁ s' → Frame XD (envC scope C g.env) ρ s'.heap → Live XD s'.heap → Cx H0 ⟨g.A, XD, envC scope C g.env, ρ, g.Ω, g.n⟩ s' := fun k fr lv =>
    ⟨fr, c₁.wd.kx (kxD k), lv, g.Ω.mono c₁.om k.keep, c₁.ok⟩
  have faNew : ∀ {ρ : List (Str × Bd)} {s' : Shared}, Frame XD (envC scope C g.env) ρ s'.heap → Keeps s₁ s' → s₁.heap.get? (envC scope C g.env).locals = none := fun _ _ => fC
  -- the loop
  have loop : ∀ s', Keeps s₁ s' → Frame XD (envC scope C g.env) ρf s'.heap → Live XD s'.heap → St 0 s'.heap → s'.heap.IsList D #[] →
      codeAny (model prog w) g.A (.compLoop (.ListComp elt [⟨.Name x px, iter, ifs, 0⟩] scope pos) 0 (.ref I) (.ref D) (envC scope C g.env)) (RR (.ref D) C) s' := by
    intro sa ka fra lva sta la
    refine codeAny_compLoop_tests (fun k s' => ∃ i ys, i ≤ xs.length ∧ k = xs.length + 1 - i ∧ Keeps s₁ s' ∧ Frame XD (envC scope C g.env) ρf s'.heap ∧ Live XD s'.heap ∧ St i s'.heap ∧ s'.heap.IsList D ys.toArray ∧
      All2 (fun v z => (tList t).rel XD s'.heap v z) ys (((xs.take i).filter p).map f) ∧ NewRefs s₁.heap s'.heap XD ys) ?_ (xs.length + 1) ⟨0, [], Nat.zero_le _, rfl, ka, fra, lva, sta, la, by simpa using All2.nil, .nil⟩
    rintro k s' ⟨i, ys, hi, rfl, kk, fr, lv, st, lst, hys, hnr⟩
    obtain ⟨oI, fsI, eI, dI⟩ := hIf _ _ st
    have fI := fr.not_fields eI dI
    have fD' := fr.not_list lst
    by_cases hlt : i < xs.length
    · refine W.item i _ _ _ (by rw [hlen]; exact hlt) st fun v h1 tk1 hP st1 hk1 => ?_
      have hk1' : ∀ b o, b ≠ I → s'.heap.get? b = some o → h1.get? b = some o := fun b o nb e => hk1 b o (by simpa using nb) e
      have k1 : Keeps s₁ { s' with heap := h1, toks := tk1 } := by
        obtain ⟨h0, t0, rfl, kq⟩ := kk
        exact ⟨h1, tk1, rfl, fun b o e => hk1' b o (fun q => by rw [q, hI] at e; cases e) (kq b o e)⟩
      have fr1 : Frame XD (envC scope C g.env) ρf h1 := fr.off (Z := fun a => a = I) (fun b o nb e => hk1' b o nb e) (fun a q => .inl (.inr (.inl q))) (fun a q => q ▸ fI)
      have lv1 : Live XD h1 := fun a q => by
        by_cases z : a = I
        · subst z; obtain ⟨o, fs, e, _⟩ := hIf _ _ st1; exact ⟨o, e⟩
        · obtain ⟨o, e⟩ := lv a q; exact ⟨o, hk1' a o z e⟩
      have kx1 : Kx XD XD s'.heap h1 := fun b o nb e => ⟨nb, hk1' b o (fun q => nb (.inl (.inr (.inl q)))) e⟩
      have l1 : h1.IsList D ys.toArray := let ⟨o, ho, r⟩ := lst; ⟨o, hk1' D o (Ne.symm ID) ho, r⟩
      obtain ⟨z, hz⟩ : ∃ z, xs[i]? = some z := ⟨xs[i], by simp [hlt]⟩
      have hzm : z ∈ xs := List.mem_of_getElem? hz
      have hb : (bnd z).rel XD h1 v := hit i v XD h1 (bnd z) (by rw [List.getElem?_map, hz]; rfl) hP (kxD k1)
      refine wpAny_assign_Name (storeC (b := bnd z) (mkSx k1 fr1 lv1) hb (fun a h' fn sb => ?_) kindX fun s2 a cx2 fn ko => ?_)
      · refine g.Ω.mono c₁.om fun b o e => (sb.2 b fun q => ?_).trans (k1.keep b o e)
        rw [q, targetNew a fn] at e; cases e
      have fa2 : Fa (envC scope C g.env) a := fn.imp id fun e => ⟨x, e⟩
      have xa2 : XD a := fa_x fr1 fa2
      have k2 : Keeps s₁ s2 := by
        obtain ⟨h0, t0, q0, kq⟩ := k1
        obtain ⟨h2, t2, rfl, kq2⟩ := ko
        refine ⟨h2, t2, by rw [q0], fun b o e => kq2 b o (fun q => ?_) (by rw [q0]; exact kq b o e)⟩
        have q' : b = a := q
        rw [q', targetNew a fn] at e; cases e
      have l2 : s2.heap.IsList D ys.toArray := let ⟨o, ho, r⟩ := l1; ⟨o, ko.get (fun q => fr1.not_list l1 ((show D = a from q) ▸ fa2)) ho, r⟩
      have st2 : St (i + 1) s2.heap := W.frame _ _ _ st1 fun b hb o e => ko.get (fun q => by
        have q' : b = a := q
        rcases fpOk b hb with z | ⟨z, _⟩
        · obtain ⟨o', fs', e', d'⟩ := hIf _ _ st1
          exact fr1.not_fields e' d' (z ▸ q' ▸ fa2)
        · exact z (q' ▸ xa2)) e
      have kx2 : Kx XD XD s'.heap s2.heap := fun b o nb e => ⟨nb, ko.get (fun q => nb ((show b = a from q) ▸ xa2)) (kx1 b o nb e).2⟩
      obtain ⟨hts, hev⟩ := hq z hzm XD C gXD
      refine wpAny_mono (hts s2 cx2 _) (fun okk s3 q3 => ?_) fun _ _ e => e
      obtain ⟨k3, rfl⟩ := q3
      have cx3 := cx2.keep k3
      have sn := all2_snoc_filter (p := p) (f := f) hz (hys.imp fun v z q => (tList t).mono ((tList t).mono q kx2) (Kx.of_keep k3.keep))
      have subρ : ∀ n b, ρf.lookup n = some b → ((x, bnd z) :: ρf).lookup n = some b := fun n b e => by
        rw [List.lookup_cons]
        cases hn : n == x with
        | false => exact e
        | true =>
          have e' : n = x := by simpa using hn
          have := (ρfOk e).2
          rw [e'] at this
          rcases ok.tg with h | h <;> rw [h] at this <;> cases this
      cases hp : p z with
      | false =>
        simp only [Bool.false_eq_true, if_false]
        exact ⟨xs.length + 1 - (i + 1), by omega, i + 1, ys, hlt, rfl, k2.trans k3, cx3.fr.sub subρ, cx3.live, W.frame _ _ _ st2 fun b _ o e => k3.keep b o e, (let ⟨o, ho, r⟩ := l2; ⟨o, k3.keep _ _ ho, r⟩), sn.1 hp, (hnr.kx kx2).kx (Kx.of_keep k3.keep)⟩
      | true =>
        simp only [if_true]
        refine wpAny_mono (hev hp s3 cx3 _) (fun y s4 q4 => ?_) fun _ _ e => e
        obtain ⟨k4, hy, hyn⟩ := q4
        have cx4 := cx3.keep k4
        have l4 : s4.heap.IsList D ys.toArray := let ⟨o, ho, r⟩ := l2; ⟨o, k4.keep _ _ (k3.keep _ _ ho), r⟩
        have hysl : ys.length ≤ 16777216 := by
          have e1 := hys.length
          have e2 : ((xs.take i).filter p).length ≤ (xs.take i).length := List.length_filter_le _ _
          rw [List.length_map] at e1
          rw [List.length_take] at e2
          omega
        refine wpAny_list_append (hsz := by rw [sizeLine_eq]; simpa using hysl) l4 fun h5 l5 sb5 => ?_
        have kx5 : Kx XD XD s4.heap h5 := fun b o nb e => ⟨nb, (sb5.2 b fun q => nb (.inr q)).trans e⟩
        have st5 : St (i + 1) h5 := W.frame _ _ _ st2 fun b hb o e => (sb5.2 b fun q => by
          rcases fpOk b hb with z | ⟨z, _⟩
          · exact ID (z ▸ q)
          · exact z (.inr q)).trans (k4.keep _ _ (k3.keep _ _ e))
        refine ⟨xs.length + 1 - (i + 1), by omega, i + 1, ys ++ [y], hlt, rfl, ?_, (cx4.fr.off (Z := fun a => a = D) (fun b o nb e => (sb5.2 b nb).trans e) (fun a q => .inr q) (fun a q => q ▸ cx4.fr.not_list l4)).sub subρ, ?_, st5, by simpa using l5, ?_, ?_⟩
        · have k14' := (k2.trans k3).trans k4
          obtain ⟨h0, t0, rfl, kq⟩ := k14'
          exact ⟨h5, _, rfl, fun b o e => (sb5.2 b fun q => by rw [q, fD] at e; cases e).trans (kq b o e)⟩
        · intro a q
          by_cases z : a = D
          · subst z; obtain ⟨o, e, _⟩ := l5; exact ⟨o, e⟩
          · obtain ⟨o, e⟩ := cx4.live a q; exact ⟨o, (sb5.2 a z).trans e⟩
        · exact (all2_snoc_filter (p := p) (f := f) hz (hys.imp fun v z q => (tList t).mono ((tList t).mono ((tList t).mono ((tList t).mono q kx2) (Kx.of_keep k3.keep)) (Kx.of_keep k4.keep)) kx5)).2 hp y ((tList t).mono hy kx5)
        · have n3 := (hnr.kx kx2).kx (Kx.of_keep k3.keep)
          obtain ⟨a, vs, rfl, na, la, _⟩ := (tList t).mono hy kx5
          obtain ⟨a', e', hn3⟩ := hyn
          cases e'
          have ka : ∃ o, h5.get? a = some o := let ⟨o, ho, _⟩ := la; ⟨o, ho⟩
          refine ((n3.kx (Kx.of_keep k4.keep)).kx kx5).snoc (Keep.none (k2.trans k3).keep hn3) na ka fun hm => ?_
          obtain ⟨_, _, o, ho⟩ := n3.all a hm
          rw [hn3] at ho; cases ho
    · have hin : i = xs.length := by omega
      subst hin
      refine W.done _ _ _ (hlen ▸ st) fun h1 tk1 hk1 => ?_
      have hk1' : ∀ b o, b ≠ I → s'.heap.get? b = some o → h1.get? b = some o := fun b o nb e => hk1 b o (by simpa using nb) e
      have k1 : Keeps s₁ { s' with heap := h1, toks := tk1 } := by
        obtain ⟨h0, t0, rfl, kq⟩ := kk
        exact ⟨h1, tk1, rfl, fun b o e => hk1' b o (fun q => by rw [q, hI] at e; cases e) (kq b o e)⟩
      have fr1 : Frame XD (envC scope C g.env) ρf h1 := fr.off (Z := fun a => a = I) (fun b o nb e => hk1' b o nb e) (fun a q => .inl (.inr (.inl q))) (fun a q => q ▸ fI)
      have kx1 : Kx XD XD s'.heap h1 := fun b o nb e => ⟨nb, hk1' b o (fun q => nb (.inl (.inr (.inl q)))) e⟩
      have l1 : h1.IsList D ys.toArray := let ⟨o, ho, r⟩ := lst; ⟨o, hk1' D o (Ne.symm ID) ho, r⟩
      obtain ⟨m', hm', _⟩ := fr1.vars
      have nrf := hnr.kx kx1
      obtain ⟨as, rfl, hnd, hnew⟩ := nrf.refs
      rw [List.take_length] at hys
      refine hR D C _ m' k1 fD fC hDC hm' ⟨X', fun a q => .inl q, .inr (.inr (.inl rfl)), as, l1, hnd, fun a ha => ⟨(hnew a ha).1, fun q => (hnew a ha).2 (.inr q)⟩, ?_, ?_⟩
      · rintro (q | q | q | ⟨n, q⟩)
        · obtain ⟨o, e⟩ := c₁.live D q; rw [fD] at e; cases e
        · exact ID q.symm
        · exact hDC q
        · have := (okc.empty n D q).2; omega
      · exact hys.imp fun v z q => (tList t).mono ((tList t).mono q kx1) fun b o nb e => ⟨fun q => nb (.inl q), e⟩
  exact codeAny_compStart_list (loop _ k14 fr4 live4 (W.frame _ _ _ hst fun b _ o e => keep24 b o e) lD) (W.self 0 _ _ _ (W.frame _ _ _ hst fun b _ o e => keep24 b o e) (loop _ k14 fr4 live4 (W.frame _ _ _ hst fun b _ o e => keep24 b o e) lD))

end
end Mine
end

section
open PySem PySem.W PyProof.Rows
namespace Mine
set_option linter.unusedVariables false
section
variable {prog : Program} {w : World} {H0 : Heap} {K : Frag}
theorem fn_introG {fa : Addr} {n : Nat} {name qual : Str} {params : Arguments} {body : List Stmt} {scope : Scope} {dV kV doc pm cdv ct oc : Value} {an od : Option Addr} {osl : Array (Option Value)} {ρ : List (Str × Bd)}
    (W : W0 K H0) (ho : K.lookup fa = some ⟨oc, od, .func (fnOf name qual params body scope dV kV doc pm an cdv ct), osl⟩) (hcd : codeIn K cdv qual = true)
    (hkind : (ρ.all fun y => scope.names.lookup y.1 == some .local || scope.names.lookup y.1 == some .cell) = true)
    (hnd : decide ((ρ.map (·.1)).Nodup) = true) (hnc : decide (((cellsFrom 0 scope.names []).map (·.1)).Nodup) = true)
    {A : Around} {s : Shared} {X : XS} {vs : List Value} {kvs : List (Str × Value)} {R : Result → Shared → Prop} (ok : OkA A (n + 1)) (wd : Wd H0 X s.heap) (lv : Live X s.heap)
    (binds : List (Str × Value)) (hb : BindsTo s (fnOf name qual params body scope dV kV doc pm an cdv ct) ⟨vs, kvs⟩ binds) (hρ : All2 (fun (nv : Str × Value) (nb : Str × Bd) => nv.1 = nb.1 ∧ nb.2.rel X s.heap nv.2) binds ρ)
    (hbody : ∀ (L : Addr) (X' : XS) (s' : Shared), (∀ a, X a → X' a) → (∀ a, X' a → X a ∨ s.heap.get? a = none) → s.heap.get? L = none → Keeps s s' → Sx H0 nX s ⟨A.deeper (envF qual scope L fa cdv), X', envF qual scope L fa cdv, ρ, hTrue, n⟩ s' →
      wpAny (model prog w) (A.deeper (envF qual scope L fa cdv)) (execs body (envF qual scope L fa cdv)) (fun f s'' => ∃ v, f = .ret v ∧ R (.ok (.ret v)) s'')
        (fun e s'' => wpAny (model prog w) (A.deeper (envF qual scope L fa cdv)) (leaving (envF qual scope L fa cdv) e) (fun _ s3 => R (.error e) s3) (fun e' s3 => R (.error e') s3) s'') s')
    (hco : scope.isCoroutine = false) (hgen : scope.isGenerator = false) (hk : scope.kind = .function) : codeAny (model prog w) A (.call (.ref fa) ⟨vs, kvs⟩) R s := by
  replace hnd := of_decide_eq_true hnd
  replace hnc := of_decide_eq_true hnc
  have hnames : binds.map (·.1) = ρ.map (·.1) := by
    clear hb hbody hkind hnd
    induction hρ with
    | nil => rfl
    | cons h _ ih => simp [h.1, ih]
  refine codeAny_call_function (by have := ok.dp; omega) (wd.keep _ _ (W.kin _ _ ho)) rfl hco hgen rfl (codeRec_of (fun a o e => wd.keep _ _ (W.kin _ _ e)) hcd) (hb _ _ _ _ ?_)
  have hkb : ∀ m, ∀ x ∈ binds, scope.names.lookup x.1 = some .local ∨ (scope.names.lookup x.1 = some .cell ∧ ((cellsFrom m scope.names []).lookup x.1).isSome = true) := by
    refine kindsX ?_
    rw [List.all_eq_true] at hkind ⊢
    intro x hx
    have : x.1 ∈ ρ.map (·.1) := hnames ▸ List.mem_map_of_mem hx
    obtain ⟨y, hy, e⟩ := List.mem_map.mp this
    have := hkind y hy
    rw [e] at this; exact this
  refine wpAny_newFunctionEnv_cells hk (hkb _) fun env he s' x => ?_
  have lim : s'.heap.NoLimit := (W.lim.keeps wd.keep).keeps x.toInCall.keep
  subst he
  refine ⟨lim, codeAny_func ?_⟩
  have kp : Keeps s s' := x.done
  have hcellN : ((cellsFrom (s.heap.objs.size + 1) scope.names []).map (·.1)).Nodup := cellsFrom_names scope.names 0 (s.heap.objs.size + 1) [] [] rfl ▸ hnc
  let X' : XS := fun a => X a ∨ s.heap.objs.size ≤ a ∧ (a = s.heap.objs.size ∨ ∃ n, (cellsFrom (s.heap.objs.size + 1) scope.names []).lookup n = some a)
  have hXX : ∀ b o, s.heap.get? b = some o → ¬ X b → ¬ X' b := fun b o e nb q => by
    rcases q with q | q
    · exact nb q
    · exact absurd (Heap.lt_size e) (Nat.not_lt.mpr q.1)
  have kx : Kx X X' s.heap s'.heap := fun b o nb e => ⟨hXX b o e nb, x.toInCall.keep b o e⟩
  have fresh : ∀ a, s.heap.objs.size ≤ a → s.heap.get? a = none := fun a h => by
    cases q : s.heap.get? a with
    | none => rfl
    | some o => exact absurd (Heap.lt_size q) (Nat.not_lt.mpr h)
  have cge : ∀ n c, (cellsFrom (s.heap.objs.size + 1) scope.names []).lookup n = some c → s.heap.objs.size ≤ c := fun n c e => Nat.le_of_lt (x.above n c (mem_of_lookup e))
  have sx : Sx H0 nX s ⟨A.deeper (envF qual scope s.heap.objs.size fa cdv), X', envF qual scope s.heap.objs.size fa cdv, ρ, hTrue, n⟩ s' := by
    refine ⟨⟨⟨hk, rfl, rfl, .inr ⟨Nat.le_refl _, .inl rfl⟩, ⟨_, x.toInCall.ns, fun y b e => ?_⟩, fun y c e => ?_, x.apart⟩, wd.kx kx, ?_, trivial, ok.deeper _⟩, KOff.of_keeps kp, .inr (fresh _ (Nat.le_refl _)), fun y c e => .inr (fresh _ (cge y c e))⟩
    · obtain ⟨v, hm, hr⟩ := lookup_all2 (P := fun v (b : Bd) => b.rel X s.heap v) hρ e
      have g := bind_get (kindOf := (envF qual scope s.heap.objs.size fa cdv).kindOf) binds (fun _ => none) (fun _ => none) (hnames ▸ hnd) hm
      refine ⟨v, b.mono hr kx, ?_⟩
      rcases hkb (s.heap.objs.size + 1) _ hm with h1 | ⟨h1, h2⟩
      · exact .inl ⟨h1, g.1 h1⟩
      · obtain ⟨c, hc⟩ := Option.isSome_iff_exists.mp h2
        exact .inr ⟨.inl h1, c, hc, g.2 h1 ▸ x.cell y c hc⟩
    · exact ⟨.inr ⟨cge y c e, .inr ⟨y, e⟩⟩, _, x.cell y c e⟩
    · intro a q
      rcases q with q | ⟨_, q | ⟨y, q⟩⟩
      · obtain ⟨o, e⟩ := lv a q; exact ⟨o, x.toInCall.keep a o e⟩
      · subst q; obtain ⟨o, _, _, e, _⟩ := x.toInCall.ns; exact ⟨o, e⟩
      · obtain ⟨o, e, _⟩ := x.cell y a q; exact ⟨o, e⟩
  refine wpAny_mono (hbody _ X' s' (fun a q => .inl q) (fun a q => q.imp id fun q => fresh a q.1) (fresh _ (Nat.le_refl _)) kp sx) (fun fl s'' q => ?_) fun _ _ e => e
  obtain ⟨v, rfl, hr⟩ := q
  exact hr

end
section
variable {prog : Program} {w : World} {H0 : Heap} {g : Γ} {α β : Type} {t : Ty α} {u : Ty β}
/-- a contract whose result is a new object -/
def FnN (prog : Program) (w : World) (H0 : Heap) (fa : Addr) (n : Nat) (args : List Bd) (res : Bd) : Prop :=
  (∃ o fd, H0.get? fa = some o ∧ o.data = .func fd) ∧ ∀ (A : Around) (s : Shared) (X : XS) (vs : List Value) (R : Result → Shared → Prop), OkA A n → Wd H0 X s.heap → Live X s.heap →
    All2 (fun v (b : Bd) => b.rel X s.heap v) vs args →
    (∀ v s', Keeps s s' → res.rel X s'.heap v → (∃ a, v = .ref a ∧ s.heap.get? a = none) → R (.ok (.ret v)) s') → codeAny (model prog w) A (.call (.ref fa) ⟨vs, []⟩) R s
theorem ev_callN {f : Str} {fa : Addr} {e : Expr} {es : List Expr} {bs : List Bd} {n : Nat} {r : Bd} {Y : XS} {p pos : Pos} (hf : Ev prog w H0 g Y (.Name f p) (bVal (.ref fa))) (hs : Evs prog w H0 g g.X pos (e :: es) bs)
    (F : FnN prog w H0 fa n bs r) (hn : n ≤ g.n) (he : ∀ env, starEach (e :: es) env = (false, eval e env) :: starEach es env) : EvN prog w H0 g g.X (.Call (.Name f p) (e :: es) [] pos) r := by
  intro s c E
  obtain ⟨⟨o, fd, ho, hd⟩, F⟩ := F
  refine wpAny_Call_Name_kw (hf.use c fun v s1 k1 c1 r1 => ?_)
  obtain rfl : v = .ref fa := r1
  refine Calls.callWith_function (o := o) (fd := fd) (evalArgs_of he ?_)
  refine wpAny_mono (hs s1 c1 E) (fun vs s2 q => ⟨⟨(c1.wd.kx (Kx.of_keep q.1.keep)).keep _ _ ho, hd⟩, ?_⟩) fun _ _ e => e
  have c2 := c1.keep q.1
  refine wpAny_call (F _ s2 g.X vs _ (c2.ok.le hn) c2.wd c2.live q.2 fun v s3 k3 r3 n3 => ?_)
  obtain ⟨a, rfl, ha⟩ := n3
  exact ⟨(k1.trans q.1).trans k3, r3, a, rfl, Keep.none (k1.trans q.1).keep ha⟩
/-- a comprehension gives a new list -/
theorem ev_compN {elt iter : Expr} {x : Str} {px pos : Pos} {scope : Scope} {xs : List α} {bnd : α → Bd} {f : α → β} {b : Bd}
    (hit : Ev prog w H0 g g.X iter b) (hI : Iter prog w H0 g b (xs.map bnd)) (ok : CompOk scope g.env x) (hsz : xs.length ≤ 16777216)
    (hq : ∀ z ∈ xs, ∀ (X' : XS) (C : Addr), (∀ a, g.X a → X' a) → Ev prog w H0 (gC g X' scope C x (bnd z)) X' elt (u.at (f z)))
    (hs : ∀ x, foldedSetIterable iter g.env x = pure x) :
    EvN prog w H0 g g.X (.ListComp elt [⟨.Name x px, iter, [], 0⟩] scope pos) ((tList u).at (xs.map f)) := by
  intro s c E
  rw [eval_ListComp]
  refine wpAny_comprehension_free (use := none) rfl hs (closureFor_eq ok.fr) ok.kind (fun y hy e => e ▸ lookup_of_mem_nd ok.nd hy) (hit.use c fun v s1 k1 c1 r1 => hI s1 v _ _ c1 r1 fun I s2 St P fp o fs k2 hI0 eI dI W st hIf hfp hitem => ?_)
  refine comp_core (p := fun _ => true) (RR := fun acc C => compPost (model prog w) g.A E none _ acc C) ok hsz (fun z hz X' C hX => ⟨tsl_nil, fun _ => hq z hz X' C hX⟩) c1 k2 hI0 W st hIf hfp hitem fun D C s' m' ks fD fC hDC hm hr => ?_
  rw [filter_true] at hr
  obtain ⟨X', hX, xC, hr⟩ := hr
  refine ⟨m', hm, fun h' sb => ?_⟩
  refine ⟨k1.trans ?_, (tList u).mono hr fun b o nb e => ⟨fun q => nb (hX b q), (sb.2 b fun q => nb (q ▸ xC)).trans e⟩, D, rfl, Keep.none k1.keep fD⟩
  obtain ⟨h0, t0, rfl, kq⟩ := ks
  exact ⟨h', t0, rfl, fun b o e => (sb.2 b fun q => by rw [q, fC] at e; cases e).trans (kq b o e)⟩
/-- rows: a list of lists, all unlike -/
structure RowsAt (t : Ty α) (X : XS) (h : Heap) (R : Addr) (as : List Addr) (xss : List (List α)) : Prop where
  out : h.IsList R (as.map Value.ref).toArray
  nd : as.Nodup
  nR : R ∉ as
  xR : ¬ X R
  rows : All2 (fun v z => (tList t).rel X h v z) (as.map Value.ref) xss
def EvRows (prog : Program) (w : World) (H0 : Heap) (g : Γ) (t : Ty α) (e : Expr) (xss : List (List α)) : Prop :=
  ∀ s, Cx H0 g s → ∀ E, wpAny (model prog w) g.A (eval e g.env) (fun v s' => Keeps s s' ∧ ∃ R as, v = .ref R ∧ s.heap.get? R = none ∧ (∀ a ∈ as, s.heap.get? a = none) ∧ RowsAt t g.X s'.heap R as xss) E s
theorem ev_rows {elt iter : Expr} {x : Str} {px pos : Pos} {scope : Scope} {xs : List β} {bnd : β → Bd} {f : β → List α} {b : Bd}
    (hit : Ev prog w H0 g g.X iter b) (hI : Iter prog w H0 g b (xs.map bnd)) (ok : CompOk scope g.env x) (hsz : xs.length ≤ 16777216)
    (hq : ∀ z ∈ xs, ∀ (X' : XS) (C : Addr), (∀ a, g.X a → X' a) → EvN prog w H0 (gC g X' scope C x (bnd z)) X' elt ((tList t).at (f z)))
    (hs : ∀ x, foldedSetIterable iter g.env x = pure x) :
    EvRows prog w H0 g t (.ListComp elt [⟨.Name x px, iter, [], 0⟩] scope pos) (xs.map f) := by
  intro s c E
  rw [eval_ListComp]
  refine wpAny_comprehension_free (use := none) rfl hs (closureFor_eq ok.fr) ok.kind (fun y hy e => e ▸ lookup_of_mem_nd ok.nd hy) (hit.use c fun v s1 k1 c1 r1 => hI s1 v _ _ c1 r1 fun I s2 St P fp o fs k2 hI0 eI dI W st hIf hfp hitem => ?_)
  refine comp_coreN (p := fun _ => true) (RR := fun acc C => compPost (model prog w) g.A E none _ acc C) ok hsz (fun z hz X' C hX => ⟨tsl_nil, fun _ => hq z hz X' C hX⟩) c1 k2 hI0 W st hIf hfp hitem fun D C s' m' ks fD fC hDC hm hr => ?_
  rw [filter_true] at hr
  obtain ⟨X', hX, xC, as, l, nd, hnew, nD, hr⟩ := hr
  have kC : ∀ {h' : Heap}, Heap.SameBut C s'.heap h' → ∀ b o, b ≠ C → s'.heap.get? b = some o → h'.get? b = some o := fun sb b o nb e => (sb.2 b nb).trans e
  refine ⟨m', hm, fun h' sb => ?_⟩
  have kx : Kx X' g.X s'.heap h' := fun b o nb e => ⟨fun q => nb (hX b q), (sb.2 b fun q => nb (q ▸ xC)).trans e⟩
  refine ⟨k1.trans ?_, D, as, rfl, Keep.none k1.keep fD, fun a ha => Keep.none k1.keep (hnew a ha).1, ⟨(isList_kx kx nD l).2, nd, fun q => (hnew D q).2 rfl, fun q => nD (hX D q), hr.imp fun v z q => (tList t).mono q kx⟩⟩
  obtain ⟨h0, t0, rfl, kq⟩ := ks
  exact ⟨h', t0, rfl, fun b o e => (sb.2 b fun q => by rw [q, fC] at e; cases e).trans (kq b o e)⟩
end
end Mine
end

section
open PySem PySem.W PyProof.Rows
namespace Mine
set_option linter.unusedVariables false
section
variable {prog : Program} {w : World} {H0 : Heap} {Z : XS} {s₀ s : Shared} {g : Γ}
/-- a for that may break -/
theorem exec_forB {iter : Expr} {x : Str} {px pos : Pos} {body orelse : List Stmt} {b : Bd} {bs : List Bd} {E : Value → Shared → Prop} {Q : Flow → Shared → Prop}
    (sx : Sx H0 Z s₀ g s) (he : Ev prog w H0 g g.X iter b) (hI : Iter prog w H0 g b bs)
    (ρs ρb : Nat → List (Str × Bd)) (Ωs Ωb : Addr → Nat → Hp) (Zb : XS)
    (h0 : ∀ n b, (ρs 0).lookup n = some b → g.ρ.lookup n = some b) (hΩ0 : ∀ I h, h.get? I = none → g.Ω.p h → (Ωs I 0).p h) (hΩF : ∀ I i, (Ωs I i).StOff (Fa g.env)) (hΩI : ∀ I i, (Ωs I i).StIt I)
    (hZX : ∀ a, Zb a → g.X a) (hZ : ∀ a, Zb a → Z a ∨ s₀.heap.get? a = none)
    (hk : g.env.kindOf x = some .local ∨ (g.env.kindOf x = some .cell ∧ (g.env.cells.lookup x).isSome = true))
    (hbody : ∀ i bi I s₁ s', bs[i]? = some bi → Sx H0 (wF g.env Zb) s₁ { g with X := xI g.X I, ρ := (x, bi) :: ρs i, Ω := Ωs I i } s' →
      wpAny (model prog w) g.A (execs body g.env) (fun fl s'' => ((fl = .next ∨ fl = .cont) ∧ Sx H0 (wF g.env Zb) s₁ { g with X := xI g.X I, ρ := ρs (i + 1), Ω := Ωs I (i + 1) } s'') ∨ (fl = .brk ∧ Sx H0 (wF g.env Zb) s₁ { g with X := xI g.X I, ρ := ρb i, Ω := Ωb I i } s'')) (fun _ _ => False) s')
    (hend : ∀ I s', Sx H0 Z s₀ { g with ρ := ρs bs.length, Ω := Ωs I bs.length } s' → wpAny (model prog w) g.A (execs orelse g.env) Q (fun _ _ => False) s')
    (hbrk : ∀ i I s', i < bs.length → Sx H0 Z s₀ { g with ρ := ρb i, Ω := Ωb I i } s' → Q .next s')
    (hs : ∀ x, foldedSetIterable iter g.env x = pure x) :
    wpAny (model prog w) g.A (exec (.For (.Name x px) iter body orelse pos) g.env) Q E s := by
  refine wpAny_For (he.use sx.cx fun v s1 k1 c1 r1 => hI s1 v _ _ c1 r1 fun I s2 St P fp o fs k12 hI0 eI dI W st hIf hfp hitem => ?_) hs
  have sx1 := sx.keep k1
  have IX : ¬ g.X I := fun q => by obtain ⟨o, e⟩ := c1.live I q; rw [hI0] at e; cases e
  have IZ : ¬ Zb I := fun q => IX (hZX I q)
  let WI : XS := fun a => wF g.env Zb a ∨ a = I
  have faX : ∀ a, Fa g.env a → g.X a := fun a fa => c1.fr.fa_x fa
  have IF : ¬ Fa g.env I := fun q => IX (faX I q)
  have wX : ∀ a, WI a → xI g.X I a := by
    rintro a ((q | q) | q)
    · exact .inl (faX a q)
    · exact .inl (hZX a q)
    · exact .inr q
  have mkKx : ∀ {s' : Shared}, KOff WI s1 s' → Kx g.X (xI g.X I) s1.heap s'.heap := by
    intro s' ko b o nb e
    have nI : b ≠ I := fun q => by rw [q, hI0] at e; cases e
    exact ⟨fun q => q.elim nb nI, ko.get (fun q => (wX b q).elim nb nI) e⟩
  have mkWd : ∀ {s' : Shared}, KOff WI s1 s' → Wd H0 (xI g.X I) s'.heap := fun ko => c1.wd.kx (mkKx ko)
  have narrowed : ∀ {sa sb : Shared} {ρ' : List (Str × Bd)} {Ω' : Hp}, KOff WI s1 sa → KOff (wF g.env Zb) sa sb → Cx H0 { g with X := xI g.X I, ρ := ρ', Ω := Ω' } sb → Sx H0 Z s₀ { g with ρ := ρ', Ω := Ω' } sb := by
    intro sa sb ρ' Ω' ka kb cx
    have ko1 : KOff WI s1 sb := ka.trans kb fun b o nb e => ⟨nb, fun q => nb (.inl q)⟩
    refine ⟨⟨cx.fr.narrow (fun a q => .inl q) faX, ⟨fun b o e => ⟨(cx.wd.stay b o e).1, fun q => (cx.wd.stay b o e).2 (.inl q)⟩⟩, fun a q => cx.live a (.inl q), cx.om, c1.ok⟩, ?_, sx.wl, sx.wc⟩
    refine sx1.k0.trans ko1 fun b o nb e => ⟨nb, fun q => ?_⟩
    rcases q with (q | q) | q
    · rcases q with q | ⟨n, q⟩
      · rcases sx.wl with z | z
        · exact nb (q ▸ z)
        · rw [q, z] at e; cases e
      · rcases sx.wc n b q with z | z
        · exact nb z
        · rw [z] at e; cases e
    · rcases hZ b q with z | z
      · exact nb z
      · rw [z] at e; cases e
    · have := sx1.k0.get nb e
      rw [q, hI0] at this; cases this
  refine codeAny_forLoop (fun k s' => ∃ i, i ≤ bs.length ∧ k = bs.length + 1 - i ∧ KOff WI s1 s' ∧ Frame (xI g.X I) g.env (ρs i) s'.heap ∧ Live (xI g.X I) s'.heap ∧ (Ωs I i).p s'.heap ∧ St i s'.heap) ?_ (bs.length + 1) ⟨0, Nat.zero_le _, rfl, KOff.of_keeps k12, ?_, ?_, ?_, st⟩
  · rintro k s' ⟨i, hi, rfl, ko, fr, lv, om, st'⟩
    obtain ⟨oI, fsI, eI', dI'⟩ := hIf _ _ st'
    by_cases hlt : i < bs.length
    · refine W.item i _ _ _ hlt st' fun v h1 tk1 hP st1 hk1 => ?_
      have hk1' : ∀ b o, b ≠ I → s'.heap.get? b = some o → h1.get? b = some o := fun b o nb e => hk1 b o (by simpa using nb) e
      have ko1 : KOff WI s1 { s' with heap := h1, toks := tk1 } := by
        obtain ⟨hh, tt, rfl, kq⟩ := ko
        exact ⟨h1, tk1, rfl, fun b o nb e => hk1' b o (fun q => nb (.inr q)) (kq b o nb e)⟩
      have fr1 : Frame (xI g.X I) g.env (ρs i) h1 := fr.off (Z := fun a => a = I) (fun b o nb e => hk1' b o nb e) (fun a q => .inr q) (fun a q => q ▸ IF)
      have lv1 : Live (xI g.X I) h1 := fun a q => by
        by_cases z : a = I
        · subst z; obtain ⟨o, fs, e, _⟩ := hIf _ _ st1; exact ⟨o, e⟩
        · obtain ⟨o, e⟩ := lv a q; exact ⟨o, hk1' a o z e⟩
      obtain ⟨bi, hbi⟩ : ∃ bi, bs[i]? = some bi := ⟨bs[i], by simp [hlt]⟩
      have hb : bi.rel (xI g.X I) h1 v := hitem i v (xI g.X I) h1 bi hbi hP (mkKx ko1)
      have cx1 : Cx H0 { g with X := xI g.X I, ρ := ρs i, Ω := Ωs I i } { s' with heap := h1, toks := tk1 } := ⟨fr1, mkWd ko1, lv1, hΩI I i _ _ _ _ eI' dI' hk1' om, c1.ok⟩
      refine wpAny_assign_Name (storeC (g := { g with X := xI g.X I, ρ := ρs i, Ω := Ωs I i }) (b := bi) cx1 hb (fun a h' fn sb => hΩF I i _ _ (fun b o nb e => (sb.2 b fun q => nb (q ▸ fn.imp id fun e => ⟨x, e⟩)).trans e) cx1.om) hk fun s2' a cx2 fn ka => ?_)
      have fa2 : Fa g.env a := fn.imp id fun e => ⟨x, e⟩
      have sx2 : Sx H0 (wF g.env Zb) { s' with heap := h1, toks := tk1 } { g with X := xI g.X I, ρ := (x, bi) :: ρs i, Ω := Ωs I i } s2' :=
        ⟨cx2, ka.mono fun b q => .inl ((show b = a from q) ▸ fa2), .inl (.inl (.inl rfl)), fun n c e => .inl (.inl (.inr ⟨n, e⟩))⟩
      refine wpAny_mono (hbody i bi I _ s2' hbi sx2) (fun fl s3 q3 => ?_) fun _ _ e => e.elim
      rcases q3 with ⟨hfl, sx3⟩ | ⟨rfl, sx3⟩
      rotate_left
      · exact hbrk i I s3 hlt (narrowed ko1 sx3.k0 sx3.cx)
      have fin : ∃ m, m < bs.length + 1 - i ∧ ∃ i', i' ≤ bs.length ∧ m = bs.length + 1 - i' ∧ KOff WI s1 s3 ∧ Frame (xI g.X I) g.env (ρs i') s3.heap ∧ Live (xI g.X I) s3.heap ∧ (Ωs I i').p s3.heap ∧ St i' s3.heap := by
        refine ⟨bs.length + 1 - (i + 1), by omega, i + 1, hlt, rfl, ko1.trans sx3.k0 fun b o nb e => ⟨nb, fun q => nb (.inl q)⟩, sx3.cx.fr, sx3.cx.live, sx3.cx.om, W.frame _ _ _ st1 fun b hb o e => sx3.k0.get (fun q => ?_) e⟩
        rcases hfp b hb with z | ⟨z, _⟩
        · subst z
          rcases q with q | q
          · exact IF q
          · exact IZ q
        · rcases q with q | q
          · exact z (faX b q)
          · exact z (hZX b q)
      rcases hfl with rfl | rfl
      · exact fin
      · exact fin
    · have hin : i = bs.length := by omega
      subst hin
      refine W.done _ _ _ st' fun h1 tk1 hk1 => wpAny_mono (hend I _ ?_) (fun _ _ q => q) fun _ _ q => q.elim
      have hk1' : ∀ b o, b ≠ I → s'.heap.get? b = some o → h1.get? b = some o := fun b o nb e => hk1 b o (by simpa using nb) e
      have ko1 : KOff WI s1 { s' with heap := h1, toks := tk1 } := by
        obtain ⟨hh, tt, rfl, kq⟩ := ko
        exact ⟨h1, tk1, rfl, fun b o nb e => hk1' b o (fun q => nb (.inr q)) (kq b o nb e)⟩
      have fr1 : Frame (xI g.X I) g.env (ρs bs.length) h1 := fr.off (Z := fun a => a = I) (fun b o nb e => hk1' b o nb e) (fun a q => .inr q) (fun a q => q ▸ IF)
      refine ⟨⟨fr1.narrow (fun a q => .inl q) faX, (mkWd ko1).kx fun b o nb e => ⟨fun q => nb (.inl q), e⟩, fun a q => ?_, hΩI I _ _ _ _ _ eI' dI' hk1' om, c1.ok⟩, ?_, sx.wl, sx.wc⟩
      · obtain ⟨o, e⟩ := lv a (.inl q)
        exact ⟨o, hk1' a o (fun z => IX (z ▸ q)) e⟩
      · refine sx1.k0.trans ko1 fun b o nb e => ⟨nb, fun q => ?_⟩
        rcases q with (q | q) | q
        · rcases q with q | ⟨n, q⟩
          · rcases sx.wl with z | z
            · exact nb (q ▸ z)
            · rw [q, z] at e; cases e
          · rcases sx.wc n b q with z | z
            · exact nb z
            · rw [z] at e; cases e
        · rcases hZ b q with z | z
          · exact nb z
          · rw [z] at e; cases e
        · have := sx1.k0.get nb e
          rw [q, hI0] at this; cases this
  · exact ((c1.fr.widen (X' := xI g.X I) (fun a q => .inl q) fun b o nb e q => q.elim nb fun q => (by rw [q, hI0] at e; cases e)).keep k12.keep).sub h0
  · rintro a (q | q)
    · obtain ⟨o, e⟩ := c1.live a q; exact ⟨o, k12.keep a o e⟩
    · subst q; exact ⟨o, eI⟩
  · exact (Ωs I 0).mono (hΩ0 I _ hI0 c1.om) k12.keep

end
section
variable {prog : Program} {w : World} {A : Around} {E : Value → Shared → Prop} {s : Shared}
open PySem.MeetsSeq in
open AutoSeq1 (wpAny_loadPart') in
theorem list_delitemW (l : Addr) (items : Array Value) (n : Nat) (dd : Option Addr) (sl : Array (Option Value)) (i : Int) (u : Tok) (k : Nat) (hfit : Builtin.List.listFitsIndex i = true) (hk : seqIndex? i items.size = some k) (hs1 : items.size ≤ sizeLine) :
    Meets (Builtin.«list.__delitem__» ⟨[.ref l, .int i u], []⟩)
      (fun _ R s => s.heap.get? l = some { cls := .type "list", dict := dd, data := .seq items n, slots := sl } ∧ R (.ok (.ret .none)) { s with heap := s.heap.update l (Obj.mapSeq fun xs => xs.eraseIdxIfInBounds k) }) :=
  .of_wp fun prog w A R s h => by
    obtain ⟨hp, g, d, tk, os⟩ := s; obtain ⟨hl, h⟩ := h
    have hf : ¬ (!Builtin.List.listFitsIndex i) = true := by simp [hfit]
    have f1 := AutoSeq1.idx_int
    wp_walk using wpAny_loadPart' hl
    simp only [hk]
    have hz' : (items.eraseIdxIfInBounds k).size ≤ sizeLine + 1 := Nat.le_trans (size_erased items _) (Nat.le_succ_of_le hs1)
    wp_walk using (wpAny_updateSeq hl rfl (hz := hs1) (_hz' := hz')), wpAny_loadPart' hl
    exact ⟨_, rfl, h⟩
theorem del0 {l : Addr} {v : Value} {vs : List Value} {u : Tok} {Q : Unit → Shared → Prop} (hl : s.heap.IsList l (v :: vs).toArray) (hz : (v :: vs).length ≤ 16777216)
    (h : ∀ h', h'.IsList l vs.toArray → Heap.SameBut l s.heap h' → Q () { s with heap := h' }) : wpAny (model prog w) A (delItem (.ref l) (.int 0 u)) Q E s := by
  obtain ⟨⟨cls, dd, data, sl⟩, ho, hc, n, hd⟩ := id hl
  simp only at hc hd
  subst hc hd
  refine delItem_meets ⟨_, ho, rfl⟩ (by decide) F.slot_list_delitem F.entry_list_delitem (F.args_list_delitem_2 _ _) (list_delitemW l (v :: vs).toArray n dd sl 0 u 0 (by decide) (by simp [seqIndex?]) (by rw [sizeLine_eq]; simpa using hz)) ⟨ho, ?_⟩
  have e : (v :: vs).toArray.eraseIdxIfInBounds 0 = vs.toArray := by simp [Array.eraseIdxIfInBounds]
  have hg := Heap.get?_update_self (Obj.mapSeq fun xs => xs.eraseIdxIfInBounds 0) ho rfl
  refine h _ ⟨_, hg, rfl, (if ((v :: vs).toArray.eraseIdxIfInBounds 0).size == (v :: vs).toArray.size then n else n + 1), ?_⟩ (Heap.SameBut.update ..)
  show Data.seq ((v :: vs).toArray.eraseIdxIfInBounds 0) (if ((v :: vs).toArray.eraseIdxIfInBounds 0).size == (v :: vs).toArray.size then n else n + 1) = _
  rw [e]
end
end Mine
end

section
open PySem PySem.W PyProof.Rows
namespace Mine
set_option linter.unusedVariables false
def hAnd (a b : Hp) : Hp := ⟨fun h => a.p h ∧ b.p h, fun x k => ⟨a.mono x.1 k, b.mono x.2 k⟩⟩
def hPure (P : Prop) : Hp := ⟨fun _ => P, fun x _ => x⟩
theorem hAnd_off {a b : Hp} {Z : XS} (x : a.StOff Z) (y : b.StOff Z) : (hAnd a b).StOff Z := fun h h' k z => ⟨x h h' k z.1, y h h' k z.2⟩
theorem hAnd_it {a b : Hp} {I : Addr} (x : a.StIt I) (y : b.StIt I) : (hAnd a b).StIt I := fun h h' o fs e d k z => ⟨x h h' o fs e d k z.1, y h h' o fs e d k z.2⟩
theorem hPure_off {P : Prop} {Z : XS} : (hPure P).StOff Z := fun _ _ _ z => z
theorem hPure_it {P : Prop} {I : Addr} : (hPure P).StIt I := fun _ _ _ _ _ _ _ z => z
def tRef : Ty Addr := ⟨fun _ _ v a => v = .ref a, fun r _ => r⟩
abbrev BRow := List (List UInt8)
def BAll (vs : List Value) (xs : BRow) : Prop := All2 (fun v (x : List UInt8) => ∃ t, v = Value.bytes x.toArray t) vs xs
/-- the rows of bytes, each at its place -/
def hRows (as : List Addr) (ro : Addr → BRow) : Hp := ⟨fun h => ∀ a ∈ as, ∃ vs, h.IsList a vs.toArray ∧ BAll vs (ro a), fun x k a ha => by
  obtain ⟨vs, ⟨o, ho, r⟩, b⟩ := x a ha
  exact ⟨vs, ⟨o, k _ _ ho, r⟩, b⟩⟩
theorem hRows_off {as : List Addr} {ro : Addr → BRow} {Z : XS} (hZ : ∀ a ∈ as, ¬ Z a) : (hRows as ro).StOff Z := fun h h' k x a ha => by
  obtain ⟨vs, ⟨o, ho, r⟩, b⟩ := x a ha
  exact ⟨vs, ⟨o, k _ _ (hZ a ha) ho, r⟩, b⟩
theorem hRows_it {as : List Addr} {ro : Addr → BRow} {I : Addr} : (hRows as ro).StIt I := fun h h' oI fs e d k x a ha => by
  obtain ⟨vs, ⟨o, ho, hc, n, hd⟩, b⟩ := x a ha
  refine ⟨vs, ⟨o, k a o (fun q => ?_) ho, hc, n, hd⟩, b⟩
  subst q
  rw [e] at ho; cases ho
  rw [d] at hd; cases hd
section
variable {prog : Program} {w : World} {H0 : Heap} {Z X0 X : XS} {s₀ s : Shared} {A : Around} {env : Env} {ρ : List (Str × Bd)} {Ω : Hp} {m : Nat} {pos p : Pos} {e : Expr} {b r : Bd} {E : Value → Shared → Prop} {Q : Flow → Shared → Prop} {rest : List Stmt} {α β : Type} {t : Ty α} {u : Ty β} {g : Γ}
/-- what the context says of an own row -/
def OwnRow (Ω : Hp) (a : Addr) (xs : BRow) : Prop := ∀ h, Ω.p h → ∃ vs, h.IsList a vs.toArray ∧ BAll vs xs
theorem ts_row {n : Str} {a : Addr} {xs : BRow} (hv : g.ρ.lookup n = some (tRef.at a)) (hn : (n == ("__classdict__" : Str)) = false) (hd : (n == ("__debug__" : Str)) = false) (ho : OwnRow g.Ω a xs) (hz : xs.length ≤ 16777216)
    (ht : ∀ env m, isTrue (.Name n p) env m = (m >>= truthy)) : Ts prog w H0 g (.Name n p) (!xs.isEmpty) := by
  intro s c E
  rw [ht]
  refine wpAny_bind ((ev_var hv hn hd).use c fun v s1 k1 c1 r1 => ?_)
  obtain rfl : v = .ref a := r1
  obtain ⟨vs, l, b⟩ := ho _ c1.om
  have r : ((tList tBytes).at xs).rel (fun _ => False) s1.heap (.ref a) := ⟨a, vs, rfl, fun q => q, l, b⟩
  refine wpAny_mono (tr_list (prog := prog) (w := w) (H0 := H0) (g := g) (t := tBytes) hz s1 _ E c1 r) (fun c s2 q => ⟨k1.trans q.1, q.2⟩) fun _ _ e => e
/-- an own row read, for what is not kept -/
theorem ev_ownRow {n : Str} {a : Addr} {xs : BRow} (hv : g.ρ.lookup n = some (tRef.at a)) (hn : (n == ("__classdict__" : Str)) = false) (hd : (n == ("__debug__" : Str)) = false) (ho : OwnRow g.Ω a xs) :
    Ev prog w H0 g (fun _ => False) (.Name n p) ((tList tBytes).at xs) := by
  intro s c E
  refine (ev_var hv hn hd).use c fun v s1 k1 c1 r1 => ⟨k1, ?_⟩
  obtain rfl : v = .ref a := r1
  obtain ⟨vs, l, b⟩ := ho _ c1.om
  exact ⟨a, vs, rfl, fun q => q, l, b⟩
/-- s[1:] of an own row: a new list -/
theorem ev_tailRow {value : Expr} {xs : BRow} {lower : Option Expr} {lo : Option Int} (hl : Ev prog w H0 g (fun _ => False) value ((tList tBytes).at xs)) (h1 : EvP prog w H0 g lower lo)
    (hz : xs.length ≤ 16777216) (ht : ∀ o r, letTemporaryGo value o r = pure ()) : Ev prog w H0 g g.X (.Subscript value (.Slice lower none none p) pos) ((tList tBytes).at (pickL xs lo none none)) := by
  intro s c E
  refine wpAny_Subscript_list_slice (hl.use c fun v1 s1 k1 c1 r1 => wpAny_mono (h1 s1 c1 E) (fun vl s2 q2 => wpAny_mono (evP_none s2 (c1.keep q2.1) E) (fun vu s3 q3 => ?_) fun _ _ e => e) fun _ _ e => e) ht
  have k13 := q2.1.trans q3.1
  obtain ⟨a, vs, rfl, n, l, r⟩ := ((tList tBytes).at xs).keep r1 k13
  refine ⟨a, vs.toArray, lo, none, rfl, l, by rw [sizeLine_eq]; have := r.length; simp; omega, q2.2, q3.2, ?_⟩
  have c3 := c1.keep k13
  have kp := Keeps.push s3 { cls := .type "slice", data := .fields #[vl, vu, .none] }
  have c4 := c3.keep kp
  have := newList_rel (t := tBytes) c4 (vs := (slicePick vs.toArray lo none none).toList) (xs := pickL xs lo none none) ((slicePick_all2 r lo none none).imp fun v x q => q)
  simp only [Heap.size_push, Array.toArray_toList] at this
  exact ⟨((k1.trans k13).trans kp).trans (Keeps.push _ _), this⟩
/-- an own empty list beside what else is own -/
theorem st_newlist2 (u : Ty β) {n : Str} {np lp pos : Pos}
    (sx : Sx H0 Z s₀ ⟨A, X, env, ρ, Ω, m⟩ s) (hΩ : Ω.StOff (Fa env)) (hk : env.kindOf n = some .local ∨ (env.kindOf n = some .cell ∧ (env.cells.lookup n).isSome = true))
    (k : ∀ D s', s.heap.get? D = none → (Z D ∨ s₀.heap.get? D = none) → Sx H0 Z s₀ ⟨A, xI X D, env, (n, bVal (.ref D)) :: ρ, hAnd (hList (xI X D) u D []) Ω, m⟩ s' → ¬ Fa env D → wpAny (model prog w) A (execs rest env) Q E s') :
    wpAny (model prog w) A (execs (.Assign [.Name n np] (.List [] lp) pos :: rest) env) Q E s := by
  refine wpAny_execs_cons (wpAny_Assign_Name (List_ (Calls.spliced_nil (wpAny_newObj_type ?_))))
  have fD : s.heap.get? s.heap.objs.size = none := get_none_of_size (Nat.le_refl _)
  have kp := Keeps.push s { cls := .type "list", dict := none, data := .seq ([] : List Value).toArray }
  have pl : PlainL (s.heap.push { cls := .type "list", dict := none, data := .seq ([] : List Value).toArray }) s.heap.objs.size #[] := ⟨_, _, Heap.get?_push_size _ rfl, rfl, rfl, rfl⟩
  obtain ⟨sx1, nF, hZ⟩ := sx.own (Ω' := hAnd (hList (xI X s.heap.objs.size) u s.heap.objs.size []) Ω) fD kp (let ⟨o, _, e, _⟩ := pl; ⟨o, e⟩) ⟨⟨[], pl, .nil⟩, Ω.mono sx.cx.om kp.keep⟩
  refine store sx1 (b := bVal (.ref s.heap.objs.size)) rfl (hAnd_off (hList_off nF fun a fa => sx1.cx.fr.fa_x fa) hΩ) hk fun s' sx' _ => ?_
  exact k _ s' fD hZ sx' nF
/-- append to an own list beside what else is own -/
theorem st_append2 {D : Addr} {out : Str} {ys : List β} {y : β} {np apos cpos pos : Pos} (sx : Sx H0 Z s₀ ⟨A, X, env, ρ, hAnd (hList X u D ys) Ω, m⟩ s) (hv : ρ.lookup out = some (bVal (.ref D))) (hn : (out == ("__classdict__" : Str)) = false) (hd : (out == ("__debug__" : Str)) = false)
    (he : Ev prog w H0 ⟨A, X, env, ρ, hAnd (hList X u D ys) Ω, m⟩ X e (u.at y)) (hX : X D) (hF : ¬ Fa env D) (hZ : Z D ∨ s₀.heap.get? D = none) (hΩ : Ω.StOff fun a => a = D) (hsz : ys.length ≤ 16777216)
    (hst : ∀ env, starEach [e] env = [(false, eval e env)]) (hbase : attributeBase (.Name out np) "append" env (eval (.Name out np) env) = eval (.Name out np) env) (hline : (apos.endLine == cpos.line) = true)
    (hi : interactive env = false)
    (k : ∀ s', Sx H0 Z s₀ ⟨A, X, env, ρ, hAnd (hList X u D (ys ++ [y])) Ω, m⟩ s' → wpAny (model prog w) A (execs rest env) Q E s') :
    wpAny (model prog w) A (execs (.Expr (.Call (.Attribute (.Name out np) "append" apos) [e] [] cpos) pos :: rest) env) Q E s := by
  refine wpAny_execs_cons (wpAny_Expr (wpAny_Call_append hbase (by rw [hst]; rfl) hline (by rw [hst]; rfl) ((ev_var (g := ⟨A, X, env, ρ, hAnd (hList X u D ys) Ω, m⟩) hv hn hd).use sx.cx fun v s1 k1 c1 r1 => ?_)) hi rfl)
  obtain rfl : v = .ref D := r1
  obtain ⟨vs, l1, r1⟩ := c1.om.1
  refine ⟨D, _, rfl, l1, he.use c1 fun v s2 k2 c2 r2 => ?_⟩
  obtain ⟨vs2, l2, q2⟩ := c2.om.1
  refine list_append_plainL (hsz := by rw [sizeLine_eq]; have := q2.length; simp; omega) l2 fun h3 l3 sb3 => ?_
  have kx : Kx X X s2.heap h3 := fun b o n e => ⟨n, (sb3.2 b fun q => n (q ▸ hX)).trans e⟩
  have sx2 := (sx.keep k1).keep k2
  refine k _ (sx2.turn (tk := s2.toks) hX hF hZ (fun b o nb e => (sb3.2 b nb).trans e) (let ⟨o, _, e, _⟩ := l3; ⟨o, e⟩) ⟨⟨vs2 ++ [v], by simpa using l3, ?_⟩, hΩ _ _ (fun b o nb e => (sb3.2 b nb).trans e) c2.om.2⟩)
  exact (q2.imp fun _ _ q => u.mono q kx).append (.cons (u.mono r2 kx) .nil)
end
end Mine
end

section
open PySem PySem.W PyProof.Rows
namespace Mine
set_option linter.unusedVariables false
section
variable {M : Model} {A : Around} {E : Value → Shared → Prop} {s : Shared} {base h : Heap} {env : Env} {outer l : List Env} {L e : Addr} {cls a0 : Value} {args : List Value} {Q : Unit → Shared → Prop}
theorem noteFirst (hfr : A.frames = some (env :: outer)) (hf : env.frame = some L) (hkb : base.StaysIn h) (hl : h.FunFrames base (env :: outer)) (hx : Heap.MadeExcOf h s.heap e cls args)
    (hQ : ∀ h' t, Heap.HeldW base (env :: outer) e cls (.ref t) L h' → s.heap.UpToSlots h' → Q () { s with heap := h' }) : wpAny M A (noteFrame (.ref e) env) Q E s := by
  obtain ⟨t, he, htn, ht⟩ := hx.there
  have fresh : ∀ b, h.get? b = none → base.get? b = none := fun b hb => by
    cases hq : base.get? b with
    | none => rfl
    | some o' => have := hkb b o' hq; rw [hb] at this; cases this
  unfold noteFrame
  simp only [hf]
  refine wpAny_bind (wpAny_field he rfl (x := .none) rfl ?_)
  rw [if_neg (by decide)]
  refine wpAny_entryW (a0 := .ref t) hfr (hl.of_keeps fun b o hb _ => ⟨o, hx.keeps b o hb, rfl⟩) hf he (fun b o hb => hx.keeps b o (hkb b o hb)) (fresh e hx.new) rfl (by show (1 : Nat) < 6; decide) rfl fun h' hN => ?_
  obtain ⟨k1, k2, k3, k4⟩ := hN
  exact hQ h' t ⟨k1, fresh e hx.new, k2, k3⟩ k4
theorem flightSome (hh : Heap.HeldW base l e cls a0 L s.heap) (hQ : ∀ h', Heap.HeldW base l e cls a0 L h' → s.heap.UpToSlots h' → Q () { s with heap := h' }) : wpAny M A (setFlight (.ref e) (some L)) Q E s := by
  obtain ⟨hkb, hen, hl, oe, vs, T, oT, ts, he, hcls, hd, h1, hnT, hTe, hT, hdT, h3⟩ := hh
  have hsz3 : 3 < ts.size := (Array.getElem?_eq_some_iff.mp h3).1
  have other : ∀ b, b ≠ T → (s.heap.update T (Obj.mapFields (·.setIfInBounds 3 ((some L).elim Value.none fun f => rawInt f)))).get? b = s.heap.get? b :=
    fun b hb => Heap.get?_update_other _ _ (Ne.symm hb)
  have noRecord : ∀ b o, s.heap.get? b = some o → (∀ vs, o.data ≠ .fields vs) → b ≠ T := fun b o hb hnf q => by
    rw [q, hT] at hb; injection hb with hb; subst hb; exact hnf ts hdT
  unfold setFlight
  refine wpAny_bind (wpAny_field he hd h1 ?_)
  rw [if_pos (show (Value.ref T != Value.none) = true from by simp)]
  refine wpAny_setField hT hdT hsz3 (hQ _ ⟨fun b o hbo => (other b fun q => by rw [q, hnT] at hbo; cases hbo).trans (hkb b o hbo), hen,
    hl.of_keeps fun b o hb hnf => ⟨o, (other b (noRecord b o hb hnf)).trans hb, rfl⟩, ?_⟩ fun b o hb hnf => ⟨o.slots, (other b (noRecord b o hb hnf)).trans hb⟩)
  exact ⟨oe, vs, T, _, _, (other e (Ne.symm hTe)).trans he, hcls, hd, h1, hnT, hTe, Heap.get?_update_self _ hT (Obj.isFreed_of_fields (Obj.data_mapFields hdT _)), Obj.data_mapFields hdT _, by simp [hsz3]⟩
/-- raised in a loop of a def, out of the def -/
theorem raise_out {R : Result → Shared → Prop} (hfr : A.frames = some (env :: outer)) (hf : env.frame = some L) (hkb : base.StaysIn h) (hl : h.FunFrames base (env :: outer)) (hx : Heap.MadeExcOf h s.heap e cls args)
    (hR : ∀ h' t, Heap.FlyingW base outer e cls (.ref t) h' → s.heap.UpToSlots h' → R (.error (.ref e)) { s with heap := h' }) :
    notedBy M A env (fun x s' => cameBackBy M A env (fun e s'' => wpAny M A (leaving env e) (fun _ s3 => R (.error e) s3) (fun e' s3 => R (.error e') s3) s'') x s') (.ref e) s := by
  unfold notedBy
  refine noteFirst hfr hf hkb hl hx fun h1 t hh u1 => ?_
  unfold cameBackBy
  obtain ⟨_, _, _, oe, vs, T, oT, ts, he, hcls, hd, h1', hnT, hTe, hT, hdT, h3⟩ := id hh
  refine wpAny_bind (wpAny_field he hd h1' ?_)
  rw [if_neg (show ¬ (Value.ref T == Value.none) = true from by simp)]
  rw [hf]
  refine flightSome hh fun h2 hh2 u2 => ?_
  unfold leaving
  refine wpAny_bind (wpAny_noteFrame_againW hf hh2.2.2.2 ?_)
  refine wpAny_landsW hh2 fun h3 hfl u3 => ?_
  obtain ⟨k1, k2, ⟨_, _, k3⟩, k4⟩ := hfl
  exact hR h3 t ⟨k1, k2, k3, k4⟩ ((u1.trans u2).trans u3)
end
end Mine
end

section
open PySem PySem.W PyProof.Rows
set_option maxRecDepth 100000
namespace Mine
set_option linter.unusedVariables false
set_option linter.unusedSimpArgs false
section
variable {prog : Program} {w : World} {H0 : Heap}
theorem ret_N {Z X' : XS} {s₀ s' : Shared} {A : Around} {env : Env} {ρ : List (Str × Bd)} {Ω : Hp} {m : Nat} {e : Expr} {pos : Pos} {b : Bd} {rest : List Stmt} {Q : Flow → Shared → Prop} {E : Value → Shared → Prop} (sx : Sx H0 Z s₀ ⟨A, X', env, ρ, Ω, m⟩ s')
    (h : EvN prog w H0 ⟨A, X', env, ρ, Ω, m⟩ X' e b) (k : ∀ v s2, Keeps s' s2 → b.rel X' s2.heap v → (∃ a, v = .ref a ∧ s'.heap.get? a = none) → Q (.ret v) s2) : wpAny (model prog w) A (execs (.Return (some e) pos :: rest) env) Q E s' :=
  wpAny_execs_cons (wpAny_Return_some (wpAny_mono (h s' sx.cx E) (fun v s2 q => k v s2 q.1 q.2.1 q.2.2) fun _ _ e => e))
theorem fn_cutN (W : W0 (hd.heap_1 w.params) H0) {k : Nat} {ps : List (List UInt8)} (hk : 0 < k) (hk2 : k ≤ 100) (hp : ∀ p ∈ ps, p.length = k) (hz : ps.length ≤ 100000) : FnN prog w H0 185 1 [tBytes.at ps.flatten, tInt.at (k : Int)] ((tList tBytes).at ps) := by
  have hfl := flat_len k ps hp
  have hfz : ps.length * k ≤ 100000 * 100 := Nat.mul_le_mul hz hk2
  refine ⟨⟨_, _, W.kin 185 _ rfl, rfl⟩, ?_⟩
  rintro A s X vs R ok wd lv (_ | ⟨h1, _ | ⟨h2, _ | _⟩⟩) hR
  refine fn_introG (ρ := [("row", tBytes.at ps.flatten), ("size", tInt.at (k : Int))]) W rfl rfl rfl rfl rfl ok wd lv [("row", _), ("size", _)] (BindsTo.of_eq rfl) (.cons ⟨rfl, h1⟩ (.cons ⟨rfl, h2⟩ .nil)) ?_ rfl rfl rfl
  intro L X' s' hX hX2 hL kp sx
  refine ret_N sx (ev_compN (u := tBytes) (f := fun i => (ps.flatten.drop (i * k)).take k)
      (ev_callT (T := "range") (ev_boot W rfl nb_range rfl (by decide) rfl) (evs_cons ev_int (evs_cons (ev_lenB W (ev_var rfl rfl rfl) (by omega) rfl (fun _ => rfl) (fun _ => rfl)) (evs_cons (ev_var rfl rfl rfl) evs_nil fun _ => rfl) fun _ => rfl) fun _ => rfl) (fun s vs E c h => cb_range3 (by omega) (by omega) c h) (fun _ => rfl) (fun _ => rfl))
      (iter_range (n := ps.length) (by rw [hfl]; exact rsmall _ _ hk hk2 (by omega) (by omega)) (by rw [hfl]; exact rsize _ _ hk)) (compOk_of rfl rfl rfl rfl rfl) (by simp; omega) (fun i hi X'' C hX'' => (by
        refine (ev_sliceB (ev_var rfl rfl rfl) (evP_some (ev_var rfl rfl rfl)) (evP_some (ev_bin (ev_var rfl rfl rfl) (ev_var rfl rfl rfl) op_add)) (by omega) (fun _ _ => rfl)).cast ?_
        have hi' : i < ps.length := by simpa using hi
        have h1 : i * k ≤ ps.length * k := Nat.mul_le_mul_right k (by omega)
        have := picked_run ps.flatten (i * k) k (by omega)
        rw [← this]
        congr 3
        · congr 1
          rw [Int.natCast_mul]; omega
        · congr 1
          rw [Int.natCast_add, Int.natCast_mul]; omega)) (fun _ => rfl)) fun v s2 k2 r2 hn => ?_
  obtain ⟨a, rfl, ha⟩ := hn
  refine ⟨_, rfl, hR _ s2 (kp.trans k2) ?_ ⟨a, rfl, Keep.none kp.keep ha⟩⟩
  rw [show (List.range ps.length).map (fun i => (ps.flatten.drop (i * k)).take k) = ps from cutN_flat k ps hp] at r2
  exact (tList tBytes).mono r2 fun b o n e => ⟨fun z => n (hX b z), e⟩
end
end Mine
end

section
namespace Mine
set_option linter.unusedVariables false
section
variable {α : Type} [DecidableEq α] {as : List Nat} {ro : Nat → List α} {d : α}
def neR (ro : Nat → List α) (a : Nat) : Bool := !(ro a).isEmpty
theorem isCand_cs {c : α} (h : ∀ a ∈ as.filter (neR ro), c ∉ (ro a).tail) : isCand (as.map ro) c = true := by
  rw [isCand_iff]
  intro r hr
  obtain ⟨a, ha, rfl⟩ := List.mem_map.mp hr
  by_cases hn : neR ro a = true
  · exact h a (List.mem_filter.mpr ⟨ha, hn⟩)
  · have : ro a = [] := by simpa [neR] using hn
    rw [this]; simp
theorem isCand_no {c : α} {a : Nat} (ha : a ∈ as) (h : c ∈ (ro a).tail) : isCand (as.map ro) c = false := by
  cases hq : isCand (as.map ro) c with
  | false => rfl
  | true => exact absurd h (isCand_iff.mp hq _ (List.mem_map_of_mem ha))
theorem cand_cs : ∀ (bs : List Nat) (rows : List (List α)), (bs.map ro).findSome? (candOf rows) = (bs.filter (neR ro)).findSome? fun a => candOf rows (ro a)
  | [], _ => rfl
  | a :: bs, rows => by
    rw [List.map_cons, List.findSome?_cons, List.filter_cons]
    by_cases hn : neR ro a = true
    · rw [if_pos hn, List.findSome?_cons, cand_cs bs rows]
    · have : ro a = [] := by simpa [neR] using hn
      rw [if_neg hn, this]
      exact cand_cs bs rows
theorem candOf_cons {rows : List (List α)} {r t : List α} {c : α} (h : r = c :: t) : candOf rows r = if isCand rows c then some c else none := by
  subst h; rfl
theorem cand_none_of (h : ∀ a ∈ as.filter (neR ro), ∀ c t, ro a = c :: t → isCand (as.map ro) c = false) : cand (as.map ro) = none := by
  unfold cand
  rw [cand_cs, List.findSome?_eq_none_iff]
  intro a ha
  have hn : neR ro a = true := (List.mem_filter.mp ha).2
  cases hr : ro a with
  | nil => simp [neR, hr] at hn
  | cons c t => rw [candOf_cons rfl, h a ha c t hr]; rfl
theorem cand_some_of {i a : Nat} {c : α} {t : List α} (hi : (as.filter (neR ro))[i]? = some a) (hr : ro a = c :: t) (hc : isCand (as.map ro) c = true)
    (h : ∀ j, j < i → ∀ a', (as.filter (neR ro))[j]? = some a' → ∀ c' t', ro a' = c' :: t' → isCand (as.map ro) c' = false) : cand (as.map ro) = some c := by
  unfold cand
  rw [cand_cs, List.findSome?_eq_some_iff]
  obtain ⟨hlt, hv⟩ := List.getElem?_eq_some_iff.mp hi
  refine ⟨(as.filter (neR ro)).take i, a, (as.filter (neR ro)).drop (i + 1), ?_, by rw [candOf_cons hr, if_pos hc], fun x hx => ?_⟩
  · rw [← hv]; simp
  · obtain ⟨j, hj, rfl⟩ := List.mem_iff_getElem.mp hx
    have hj' : j < i := by simp at hj; omega
    have hg : (as.filter (neR ro))[j]? = some ((as.filter (neR ro)).take i)[j] := by
      rw [List.getElem_take]; exact List.getElem?_eq_getElem (by simp at hj; omega)
    have hm := List.mem_of_getElem? hg
    have hn : neR ro ((as.filter (neR ro)).take i)[j] = true := (List.mem_filter.mp hm).2
    cases hr' : ro ((as.filter (neR ro)).take i)[j] with
    | nil => rfl
    | cons c' t' =>
      rw [candOf_cons rfl, h j hj' _ hg c' t' hr']; simp
theorem all_empty_iff : (as.map ro).all List.isEmpty = true ↔ as.filter (neR ro) = [] := by
  rw [List.all_eq_true, List.filter_eq_nil_iff]
  constructor
  · intro h a ha hn
    have := h _ (List.mem_map_of_mem ha)
    simp [neR] at hn this
    exact hn this
  · intro h r hr
    obtain ⟨a, ha, rfl⟩ := List.mem_map.mp hr
    have := h a ha
    simpa [neR] using this
theorem c3_end {n : Nat} {acc : List α} {out : Option (List α) × List (List α)} (hc : c3f (n + 1) (as.map ro) acc = some out) (h : as.filter (neR ro) = []) : out = (some acc, as.map ro) := by
  unfold c3f at hc
  rw [if_pos (all_empty_iff.mpr h)] at hc
  exact (Option.some.inj hc).symm
theorem c3_stuck {n : Nat} {acc : List α} {out : Option (List α) × List (List α)} (hc : c3f (n + 1) (as.map ro) acc = some out) (h : as.filter (neR ro) ≠ []) (hn : cand (as.map ro) = none) : out = (none, as.map ro) := by
  unfold c3f at hc
  rw [if_neg fun q => h (all_empty_iff.mp q), hn] at hc
  exact (Option.some.inj hc).symm
theorem c3_go {n : Nat} {acc : List α} {out : Option (List α) × List (List α)} {c : α} (hc : c3f (n + 1) (as.map ro) acc = some out) (h : as.filter (neR ro) ≠ []) (hn : cand (as.map ro) = some c) : c3f n (as.map fun a => adv c (ro a)) (acc ++ [c]) = some out := by
  unfold c3f at hc
  rw [if_neg fun q => h (all_empty_iff.mp q), hn] at hc
  simpa [List.map_map, Function.comp_def] using hc
theorem filter_adv (c : α) : (as.filter (neR ro)).filter (neR fun a => adv c (ro a)) = as.filter (neR fun a => adv c (ro a)) := by
  rw [List.filter_filter]
  refine List.filter_congr fun a _ => ?_
  cases hr : ro a with
  | nil => simp [neR, hr, adv]
  | cons b t => simp [neR, hr]
end
end Mine
end

section
open PySem PySem.W PyProof.Rows
namespace Mine
set_option linter.unusedVariables false
theorem funFrames_of {h base : Heap} : ∀ {l : List Env}, (∀ env ∈ l, env.scope.kind ≠ .module ∧ ∃ L o, env.frame = some L ∧ h.get? L = some o ∧ ∀ vs, o.data ≠ .fields vs) → (∀ env ∈ l, ∀ L, env.frame = some L → base.get? L = none) → h.FunFrames base l
  | [], _, _ => trivial
  | env :: l, h1, h2 => by
    obtain ⟨hk, L, o, hf, ho, hd⟩ := h1 env (by simp)
    exact ⟨hk, ⟨L, o, hf, h2 env (by simp) L hf, ho, hd⟩, funFrames_of (fun e he => h1 e (by simp [he])) fun e he => h2 e (by simp [he])⟩
/-- a new exception leaves a loop and its def -/
theorem raise_gen {M : Model} {A : Around} {env : Env} {outer : List Env} {L : Addr} {s5 : Shared} {h6 : Heap} {e6 : Addr} {cls : String} {args : List Value} {R : Result → Shared → Prop}
    (hfr : A.frames = some outer) (hf : env.frame = some L) (hk : env.scope.kind ≠ .module) (hL : ∃ o, s5.heap.get? L = some o ∧ ∀ vs, o.data ≠ .fields vs)
    (hout : ∀ env ∈ outer, env.scope.kind ≠ .module ∧ ∃ L o, env.frame = some L ∧ s5.heap.get? L = some o ∧ ∀ vs, o.data ≠ .fields vs) (hx : Heap.MadeExc s5.heap h6 e6 cls args)
    (hR : ∀ t h' base, (∀ b o, s5.heap.get? b = some o → b ≠ L → b ∉ outer.filterMap (·.frame) → base.get? b = some o) → Heap.FlyingW base outer e6 (.type cls) (.ref t) h' → s5.heap.UpToSlots h' → R (.error (.ref e6)) { s5 with heap := h' }) :
    notedBy M (A.deeper env) env (fun x s' => cameBackBy M (A.deeper env) env (fun e s'' => wpAny M (A.deeper env) (leaving env e) (fun _ s3 => R (.error e) s3) (fun e' s3 => R (.error e') s3) s'') x s') (.ref e6) { s5 with heap := h6 } := by
  obtain ⟨oL, hoL, hdL⟩ := hL
  have hm := hx.of
  refine raise_out (base := hideAll s5.heap ((env :: outer).filterMap (·.frame))) (Around.frames_deeper hfr) hf (fun b o q => of_hideAll _ q) (funFrames_of ?_ ?_) hm fun h' t fl up => ?_
  · intro e he
    rcases List.mem_cons.mp he with rfl | he
    · exact ⟨hk, L, oL, hf, hoL, hdL⟩
    · exact hout e he
  · intro e he Lx hLx
    exact hideAll_none _ (List.mem_filterMap.mpr ⟨e, he, hLx⟩)
  · refine hR t h' _ (fun b o e nL nO => hideAll_get _ e fun q => ?_) fl ((Heap.UpToSlots.of_keeps hm.keeps).trans up)
    rw [List.filterMap_cons, hf] at q
    rcases List.mem_cons.mp q with q | q
    · exact nL q
    · exact nO q
end Mine
end

section
open PySem PySem.W PyProof.Rows
set_option maxRecDepth 100000
namespace Mine
set_option linter.unusedVariables false
set_option linter.unusedSimpArgs false
section
variable {prog : Program} {w : World} {H0 : Heap}
theorem st_forB {Z X : XS} {s₀ s : Shared} {A : Around} {env : Env} {ρ : List (Str × Bd)} {Ω : Hp} {m : Nat} {iter : Expr} {x : Str} {px pos : Pos} {body orelse : List Stmt} {b : Bd} {bs : List Bd} {E : Value → Shared → Prop} {Q : Flow → Shared → Prop}
    (sx : Sx H0 Z s₀ ⟨A, X, env, ρ, Ω, m⟩ s) (he : Ev prog w H0 ⟨A, X, env, ρ, Ω, m⟩ X iter b) (hI : Iter prog w H0 ⟨A, X, env, ρ, Ω, m⟩ b bs)
    (ρs ρb : Nat → List (Str × Bd)) (Ωs Ωb : Addr → Nat → Hp) (Zb : XS)
    (h0 : ∀ n b, (ρs 0).lookup n = some b → ρ.lookup n = some b) (hΩ0 : ∀ I h, h.get? I = none → Ω.p h → (Ωs I 0).p h) (hΩF : ∀ I i, (Ωs I i).StOff (Fa env)) (hΩI : ∀ I i, (Ωs I i).StIt I)
    (hZX : ∀ a, Zb a → X a) (hZ : ∀ a, Zb a → Z a ∨ s₀.heap.get? a = none)
    (hk : env.kindOf x = some .local ∨ (env.kindOf x = some .cell ∧ (env.cells.lookup x).isSome = true))
    (hbody : ∀ i bi I s₁ s', bs[i]? = some bi → Sx H0 (wF env Zb) s₁ ⟨A, xI X I, env, (x, bi) :: ρs i, Ωs I i, m⟩ s' →
      wpAny (model prog w) A (execs body env) (fun fl s'' => ((fl = .next ∨ fl = .cont) ∧ Sx H0 (wF env Zb) s₁ ⟨A, xI X I, env, ρs (i + 1), Ωs I (i + 1), m⟩ s'') ∨ (fl = .brk ∧ Sx H0 (wF env Zb) s₁ ⟨A, xI X I, env, ρb i, Ωb I i, m⟩ s'')) (fun _ _ => False) s')
    (hend : ∀ I s', Sx H0 Z s₀ ⟨A, X, env, ρs bs.length, Ωs I bs.length, m⟩ s' → wpAny (model prog w) A (execs orelse env) Q (fun _ _ => False) s')
    (hbrk : ∀ i I s', i < bs.length → Sx H0 Z s₀ ⟨A, X, env, ρb i, Ωb I i, m⟩ s' → Q .next s')
    (hs : ∀ x, foldedSetIterable iter env x = pure x) : wpAny (model prog w) A (exec (.For (.Name x px) iter body orelse pos) env) Q E s :=
  exec_forB sx he hI ρs ρb Ωs Ωb Zb h0 hΩ0 hΩF hΩI hZX hZ hk hbody hend hbrk hs
theorem hListB_it {X : XS} {D I : Addr} {ys : List (List UInt8)} : (hList X tBytes D ys).StIt I := by
  rintro h h' o fs e hd k ⟨vs, l, r⟩
  exact ⟨vs, l.at fun o' e' => k _ _ (plainL_ne l e hd) e', r.imp fun _ _ q => q⟩
theorem adv_len {α : Type} [DecidableEq α] (c : α) : ∀ r : List α, (adv c r).length ≤ r.length
  | [] => Nat.le_refl _
  | a :: t => by
    show (if a = c then t else a :: t).length ≤ _
    split
    · simp
    · exact Nat.le_refl _
theorem BAll.cons' {vs : List Value} {x : List UInt8} {xs : BRow} (h : BAll vs (x :: xs)) : ∃ v vs', vs = v :: vs' ∧ BAll vs' xs := by
  cases h with | cons h t => exact ⟨_, _, rfl, t⟩

theorem fn_c3 (W : W0 (hd.heap_1 w.params) H0) {A : Around} {s : Shared} {X : XS} {R : Addr} {as : List Addr} {ro : Addr → BRow} {outer : List Env} {Rs : Result → Shared → Prop}
    (ok : OkA A 1) (wd : Wd H0 X s.heap) (lv : Live X s.heap) (hR : s.heap.IsList R (as.map Value.ref).toArray) (xR : ¬ X R) (nR : R ∉ as) (nd : as.Nodup) (hXa : ∀ a ∈ as, ¬ X a) (hH : ∀ a ∈ as, H0.get? a = none)
    (hrows : (hRows as ro).p s.heap) (hz : as.length ≤ 1000) (hz2 : ∀ a ∈ as, (ro a).length ≤ 1000)
    (hfr : A.frames = some outer) (hfun : ∀ env ∈ outer, env.scope.kind ≠ .module ∧ ∃ L o, env.frame = some L ∧ s.heap.get? L = some o ∧ (∀ vs, o.data ≠ .fields vs) ∧ L ∉ as)
    {n : Nat} (hn : n ≤ 1000) {out : Option BRow × List BRow} (hc : c3f n (as.map ro) [] = some out)
    (hok : ∀ acc ro' v s', out = (some acc, as.map ro') → KOff (fun a => a ∈ as) s s' → (hRows as ro').p s'.heap → (tList tBytes).rel X s'.heap v acc → Rs (.ok (.ret v)) s')
    (herr : ∀ ro' e t L s1 h' base, out = (none, as.map ro') → KOff (fun a => a ∈ as) s s1 → (hRows as ro').p s1.heap → s.heap.get? L = none →
      (∀ b o, s1.heap.get? b = some o → b ≠ L → b ∉ outer.filterMap (·.frame) → base.get? b = some o) → Heap.FlyingW base outer e (.type "RuntimeError") (.ref t) h' → s1.heap.UpToSlots h' → Rs (.error (.ref e)) { s1 with heap := h' }) :
    codeAny (model prog w) A (.call (.ref 35) ⟨[.ref R], []⟩) Rs s := by
  have rowIn : ∀ a ∈ as, ∃ o, s.heap.get? a = some o := fun a ha => let ⟨_, ⟨o, ho, _⟩, _⟩ := hrows a ha; ⟨o, ho⟩
  have wd1 : Wd H0 (fun a => X a ∨ a ∈ as) s.heap := ⟨fun b o e => ⟨(wd.stay b o e).1, fun q => q.elim (wd.stay b o e).2 fun q => by rw [hH b q] at e; cases e⟩⟩
  have lv1 : Live (fun a => X a ∨ a ∈ as) s.heap := fun a q => q.elim (lv a) (rowIn a)
  have rr : All2 (fun v (z : Addr) => tRef.rel (fun a => X a ∨ a ∈ as) s.heap v z) (as.map Value.ref) as := by
    clear hR hz hz2 hc hrows nd hXa hH hfun hok herr rowIn wd1 lv1 nR
    generalize (fun a => X a ∨ a ∈ as) = X1
    induction as with
    | nil => exact .nil
    | cons a as ih => exact .cons rfl ih
  refine fn_introG (n := 0) (ρ := [("sequences", (tList tRef).at as)]) W rfl rfl rfl rfl rfl ok wd1 lv1 [("sequences", .ref R)] (BindsTo.of_eq rfl) (.cons ⟨rfl, R, as.map Value.ref, rfl, fun q => q.elim xR nR, hR, rr⟩ .nil) ?_ rfl rfl rfl
  intro L X' s' hX' hX2 hL kp sx
  have faNew : ∀ a, Fa _ a → s.heap.get? a = none := fun a fa => fa.elim (fun q => q ▸ (sx.wl.resolve_left id)) fun ⟨n, q⟩ => (sx.wc n a q).resolve_left id
  have asF : ∀ a ∈ as, ¬ Fa _ a := fun a ha fa => by obtain ⟨o, e⟩ := rowIn a ha; rw [faNew a fa] at e; cases e
  have asX : ∀ a ∈ as, X' a := fun a ha => hX' a (.inr ha)
  have sx0 : Sx H0 (fun a => a ∈ as) s ⟨_, X', _, _, hRows as ro, 0⟩ s' :=
    ⟨⟨sx.cx.fr, sx.cx.wd, sx.cx.live, (hRows as ro).mono hrows kp.keep, sx.cx.ok⟩, sx.k0.mono (fun _ q => q.elim), sx.wl.imp (fun q => q.elim) id, fun n c e => (sx.wc n c e).imp (fun q => q.elim) id⟩
  refine st_newlist2 tBytes sx0 (hRows_off asF) (.inl rfl) fun D s1 fD hZD sx1 nFD => ?_
  have nDas : D ∉ as := fun q => by obtain ⟨o, e⟩ := rowIn D q; rw [kp.keep _ _ e] at fD; cases fD
  have nXD : ¬ X' D := fun q => by obtain ⟨o, e⟩ := sx.cx.live D q; rw [fD] at e; cases e
  have sD : s.heap.get? D = none := Keep.none kp.keep fD
  refine wpAny_execs_cons (wpAny_While ?_)
  refine codeAny_whileLoop (fun k s2 => ∃ ro acc bs, c3f k (as.map ro) acc = some out ∧ (∀ a ∈ as, (ro a).length ≤ 1000) ∧ acc.length + k ≤ 1000 ∧ bs.filter (neR ro) = as.filter (neR ro) ∧ (∀ b ∈ bs, b ∈ as) ∧ bs.length ≤ 1000 ∧
    Sx H0 (fun a => a ∈ as) s ⟨A.deeper _, xI X' D, _, [("result", bVal (.ref D)), ("sequences", (tList tRef).at bs)], hAnd (hList (xI X' D) tBytes D acc) (hRows as ro), 0⟩ s2) ?_ n ⟨ro, [], as, hc, hz2, by simpa using hn, rfl, fun _ h => h, hz, sx1.sub ⟨rfl, rfl, trivial⟩⟩
  clear hc hz2 hrows sx sx0 sx1 ro
  rintro k s2 ⟨ro, acc, bs, hc, hz2, hacc, hbs, hsub, hbl, sx⟩
  cases k with
  | zero => cases hc
  | succ k =>
  have offF : ∀ {X' : XS} {ys : BRow} {ro : Addr → BRow}, (∀ a, Fa _ a → X' a) → (hAnd (hList X' tBytes D ys) (hRows as ro)).StOff (Fa _) := fun h => hAnd_off (hList_off nFD h) (hRows_off asF)
  have faX : ∀ a, Fa _ a → xI X' D a := fun a fa => sx.cx.fr.fa_x fa
  refine Ts.use (ts_val ev_bool tr_bool fun _ _ => rfl) sx.cx fun s3 k3 c3 => ?_
  simp only [if_true]
  replace sx := sx.keep k3
  refine st_comp (u := tRef) (xs := bs) (bnd := tRef.at) (p := neR ro) (f := id) sx (ev_var rfl rfl rfl) iter_list (compOk_of rfl rfl rfl rfl rfl) (by omega)
    (fun z hz' X'' C hX'' => ⟨tsl_one (ts_val (ev_ownRow (xs := ro z) rfl rfl rfl fun h om => om.2 z (hsub z hz')) (tr_list (by have := hz2 z (hsub z hz'); omega)) fun _ _ => rfl), fun _ => ev_var rfl rfl rfl⟩) (fun _ => rfl) rfl (offF faX) (.inl rfl) fun s sx => ?_
  rw [List.map_id, hbs] at sx
  have hcl : (as.filter (neR ro)).length ≤ 1000 := Nat.le_trans (List.length_filter_le _ _) hz
  have hcIn : ∀ a ∈ as.filter (neR ro), a ∈ as ∧ ∃ c t, ro a = c :: t := fun a ha => by
    obtain ⟨h1, h2⟩ := List.mem_filter.mp ha
    refine ⟨h1, ?_⟩
    cases hr : ro a with
    | nil => simp [neR, hr] at h2
    | cons c t => exact ⟨c, t, rfl⟩
  generalize hcs : as.filter (neR ro) = cs at sx hcl hcIn
  refine st_if sx (ts_not (ts_val (ev_var rfl rfl rfl) (tr_list (by omega)) fun _ _ => rfl)) (fun h s sx => ?_) fun h s sx => st_nil ?_
  · have hnil : cs = [] := by cases cs with | nil => rfl | cons a b => simp at h
    have hout := c3_end hc (hcs.trans hnil)
    refine wpAny_execs_cons (wpAny_Return_some (Ev.use (ev_var (b := bVal (.ref D)) rfl rfl rfl) sx.cx fun v s4 k4 c4 r4 => ?_))
    obtain rfl : v = .ref D := r4
    obtain ⟨⟨vs, l, r⟩, hro⟩ := c4.om
    refine ⟨_, rfl, hok acc ro _ s4 hout (sx.keep k4).k0 hro ⟨D, vs, rfl, fun q => nXD (hX' D (.inl q)), l.isList, r.imp fun v x q => q⟩⟩
  have hne : cs ≠ [] := by rintro rfl; simp at h
  have hcsne : as.filter (neR ro) ≠ [] := hcs ▸ hne
  have hcN : ∀ i, i < cs.length → ∃ a, cs[i]? = some a ∧ a ∈ cs ∧ cs.getD i 0 = a := fun i hi => ⟨cs[i], List.getElem?_eq_getElem hi, List.getElem_mem hi, by simp [List.getD, hi]⟩
  let Ω0 : Hp := hAnd (hList (xI X' D) tBytes D acc) (hRows as ro)
  let Pn : Nat → Prop := fun i => ∀ j, j < i → ∀ a', cs[j]? = some a' → ∀ c' t', ro a' = c' :: t' → isCand (as.map ro) c' = false
  have own : ∀ {Ω1 : Hp} {a : Addr}, (∀ h, Ω1.p h → Ω0.p h) → a ∈ cs → OwnRow Ω1 a (ro a) := fun hh ha h om => (hh h om).2 _ (hcIn _ ha).1
  refine wpAny_execs_cons (st_forB sx (ev_var rfl rfl rfl) iter_list
    (fun i => match i with | 0 => [("sequences", (tList tRef).at cs), ("result", bVal (.ref D))] | _ + 1 => [("candidate", tNone.at ()), ("sequences", (tList tRef).at cs), ("result", bVal (.ref D))])
    (fun i => [("candidate", tBytes.at ((ro (cs.getD i 0)).headD [])), ("sequences", (tList tRef).at cs), ("result", bVal (.ref D))])
    (fun I i => hAnd Ω0 (hPure (Pn i))) (fun I i => hAnd Ω0 (hPure (Pn i ∧ isCand (as.map ro) ((ro (cs.getD i 0)).headD []) = true))) (fun _ => False) ?_ ?_ ?_ ?_ (fun _ q => q.elim) (fun _ q => q.elim) (.inl rfl) ?_ ?_ ?_ (fun _ => rfl))
  · exact SubM.get ⟨rfl, rfl, trivial⟩
  · exact fun I h hI om => ⟨om, fun j hj => absurd hj (Nat.not_lt_zero j)⟩
  · exact fun I i => hAnd_off (offF faX) hPure_off
  · exact fun I i => hAnd_it (hAnd_it hListB_it hRows_it) hPure_it
  · intro i bi I s₁ s' hbi sx
    rw [List.getElem?_map] at hbi
    obtain ⟨a, ha, rfl⟩ := Option.map_eq_some_iff.mp hbi
    have ham := List.mem_of_getElem? ha
    obtain ⟨haas, c, t, hrc⟩ := hcIn a ham
    have hga : cs.getD i 0 = a := by rw [List.getD_eq_getElem?_getD, ha]; rfl
    have F1 : ∀ {P : Prop}, (hAnd Ω0 (hPure P)).StOff (Fa _) := hAnd_off (offF faX) hPure_off
    refine st_assign (b := tBytes.at c) sx (ev_imp (ev_itemL (x := c) (xs := ro a) (ev_ownRow rfl rfl rfl (own (fun h om => om.1) ham)) ev_int (by decide) (by decide) (by rw [hrc]; rfl) (fun _ _ => rfl) (fun _ _ => rfl)) fun s v _ r => r) F1 (.inl rfl) rfl fun s sx => ?_
    replace sx := sx.sub (ρ' := [("candidate", tBytes.at c), ("sequences", (tList tRef).at cs), ("result", bVal (.ref D))]) (by cases i <;> exact ⟨rfl, rfl, rfl, trivial⟩)
    refine wpAny_execs_cons (st_forB sx (ev_var rfl rfl rfl) iter_list
      (fun j => [("candidate", tBytes.at c), ("sequences", (tList tRef).at cs), ("result", bVal (.ref D))])
      (fun j => [("candidate", tNone.at ()), ("sequences", (tList tRef).at cs), ("result", bVal (.ref D))])
      (fun J j => hAnd (hAnd Ω0 (hPure (Pn i))) (hPure (∀ j', j' < j → ∀ a', cs[j']? = some a' → c ∉ (ro a').tail)))
      (fun J j => hAnd (hAnd Ω0 (hPure (Pn i))) (hPure (∃ a' ∈ cs, c ∈ (ro a').tail))) (fun _ => False) ?_ ?_ ?_ ?_ (fun _ q => q.elim) (fun _ q => q.elim) (.inl rfl) ?_ ?_ ?_ (fun _ => rfl))
    · exact SubM.get ⟨rfl, rfl, rfl, trivial⟩
    · exact fun J h hJ om => ⟨om, fun j hj => absurd hj (Nat.not_lt_zero j)⟩
    · exact fun J j => hAnd_off F1 hPure_off
    · exact fun J j => hAnd_it (hAnd_it (hAnd_it hListB_it hRows_it) hPure_it) hPure_it
    · intro j bj J s₂ s'' hbj sx
      rw [List.getElem?_map] at hbj
      obtain ⟨a', ha', rfl⟩ := Option.map_eq_some_iff.mp hbj
      have ham' := List.mem_of_getElem? ha'
      have hzz := hz2 a' (hcIn a' ham').1
      refine st_if sx (ts_cmp (ev_var rfl rfl rfl) (ev_tailRow (xs := ro a') (ev_ownRow rfl rfl rfl (own (fun h om => om.1.1) ham')) (evP_some ev_int) (by omega) (fun _ _ => rfl)) op_inBytes rfl) (fun h s sx => ?_) fun h s sx => st_nil ?_
      · refine st_assign sx ev_none (hAnd_off F1 hPure_off) (.inl rfl) rfl fun s sx => st_break (.inr ⟨rfl, ?_⟩)
        refine (sx.om (Ω' := hAnd (hAnd Ω0 (hPure (Pn i))) (hPure (∃ a' ∈ cs, c ∈ (ro a').tail))) fun h' om => ⟨om.1, a', ham', ?_⟩).sub ⟨rfl, rfl, rfl, trivial⟩
        have e1 := pickL_from (ro a') 1
        rw [show pickL (ro a') (some 1) none none = _ from e1] at h
        simpa using h
      · refine st_nil (.inl ⟨.inl rfl, ?_⟩)
        refine (sx.om (Ω' := hAnd (hAnd Ω0 (hPure (Pn i))) (hPure (∀ j', j' < j + 1 → ∀ a', cs[j']? = some a' → c ∉ (ro a').tail))) fun h' om => ⟨om.1, fun j' hj' b hb => ?_⟩).sub ⟨rfl, rfl, rfl, trivial⟩
        rcases Nat.lt_or_ge j' j with q | q
        · exact om.2 j' q b hb
        · obtain rfl : j' = j := by omega
          rw [ha'] at hb; cases hb
          have e1 := pickL_from (ro a') 1
          rw [show pickL (ro a') (some 1) none none = _ from e1] at h
          simpa using h
    · intro J s sx
      refine st_break (.inr ⟨rfl, ?_⟩)
      have hcand : (∀ j', j' < (cs.map tRef.at).length → ∀ a', cs[j']? = some a' → c ∉ (ro a').tail) → isCand (as.map ro) ((ro (cs.getD i 0)).headD []) = true := fun hall => by
        rw [hga, hrc]
        refine isCand_cs fun b hb => ?_
        rw [hcs] at hb
        obtain ⟨j', hj', rfl⟩ := List.mem_iff_getElem.mp hb
        exact hall j' (by simpa using hj') _ (List.getElem?_eq_getElem hj')
      refine (sx.om (Ω' := hAnd Ω0 (hPure (Pn i ∧ isCand (as.map ro) ((ro (cs.getD i 0)).headD []) = true))) fun h' om => ⟨om.1.1, om.1.2, hcand om.2⟩).sub ?_
      rw [hga, hrc]
      exact ⟨rfl, rfl, rfl, trivial⟩
    · intro j J s hj sx
      refine st_nil (.inl ⟨.inl rfl, ?_⟩)
      refine (sx.om (Ω' := hAnd Ω0 (hPure (Pn (i + 1)))) fun h' om => ⟨om.1.1, fun j' hj' b hb c' t' hr' => ?_⟩).sub ⟨rfl, rfl, rfl, trivial⟩
      rcases Nat.lt_or_ge j' i with q | q
      · exact om.1.2 j' q b hb c' t' hr'
      · obtain rfl : j' = i := by omega
        rw [ha] at hb; cases hb
        rw [hrc] at hr'; cases hr'
        obtain ⟨a', ha', hm⟩ := om.2
        exact isCand_no (hcIn a' ha').1 hm
  · intro I s sx
    obtain ⟨l, hl⟩ : ∃ l, (cs.map tRef.at).length = l + 1 := ⟨cs.length - 1, by have := List.length_pos_iff.mpr hne; simp; omega⟩
    have hPn : Pn cs.length := by have := sx.cx.om.2; rw [List.length_map] at this; exact this
    rw [hl] at sx
    have hnone : cand (as.map ro) = none := cand_none_of fun a ha c t hr => by
      rw [hcs] at ha
      obtain ⟨j, hj, rfl⟩ := List.mem_iff_getElem.mp ha
      exact hPn j hj _ (List.getElem?_eq_getElem hj) c t hr
    have hout := c3_stuck hc hcsne hnone
    refine st_nil ?_
    refine st_if sx (ts_cmp (ev_var rfl rfl rfl) ev_none op_isNoneT rfl) (fun _ s sx => ?_) (fun h => absurd h (by decide))
    refine wpAny_execs_cons (wpAny_Raise_call F.excCall_RuntimeError F.excRaise_RuntimeError sx.cx.ok.hh rfl (Ev.use (ev_boot W rfl nb_RuntimeError rfl (by decide) rfl) sx.cx fun v s4 k4 c4 r4 => ⟨r4, ?_⟩))
    refine evalArgs_of (g := ⟨A.deeper _, xI X' D, _, _, _, 0⟩) (fun _ => rfl) (wpAny_mono (evs_cons ev_str evs_nil (fun _ => rfl) s4 c4 _) (fun vs s5 q => ?_) fun _ _ e => e)
    obtain ⟨k5, _ | ⟨_, _ | _⟩⟩ := q
    refine ⟨rfl, by rw [sizeLine_eq]; show (1 : Nat) ≤ _; decide, fun h6 e6 hx => ?_⟩
    have sx5 := (sx.keep k4).keep k5
    obtain ⟨mm, ⟨oL, es, ep, hoL, hdL, _⟩, _⟩ := sx5.cx.fr.vars
    refine raise_gen hfr rfl (by intro q; cases q) ⟨oL, hoL, fun vs q => ?_⟩ (fun env he => ?_) hx fun t h' base hB fl up => ?_
    · rw [hdL] at q; cases q
    · obtain ⟨hk', L', o, hf', ho, hd', hna⟩ := hfun env he
      exact ⟨hk', L', o, hf', sx5.k0.get hna ho, hd'⟩
    · exact herr ro e6 t L s5 h' base hout sx5.k0 sx5.cx.om.1.2 hL hB fl up
  · intro i I s hi sx
    obtain ⟨a, ha, ham, hga⟩ := hcN i (by simpa using hi)
    obtain ⟨haas, c, t, hrc⟩ := hcIn a ham
    have hpure := sx.cx.om.2
    rw [hga, hrc] at sx
    have hP : Pn i ∧ isCand (as.map ro) c = true := by
      have h2 : Pn i ∧ isCand (as.map ro) ((ro (cs.getD i 0)).headD []) = true := hpure
      rw [hga, hrc] at h2; exact h2
    have hcd : cand (as.map ro) = some c := cand_some_of (by rw [hcs]; exact ha) hrc hP.2 (by rw [hcs]; exact hP.1)
    have hgo := c3_go hc hcsne hcd
    refine st_if sx (ts_cmp (ev_var rfl rfl rfl) ev_none (op_isNone (cc := false) (by rintro s v ⟨t, rfl⟩; rfl)) rfl) (fun h => absurd h (by decide)) fun _ s sx => st_nil ?_
    replace sx := sx.om (Ω' := hAnd (hList (xI X' D) tBytes D acc) (hRows as ro)) fun h om => om.1
    refine st_append2 sx rfl rfl rfl (ev_var rfl rfl rfl) (.inr rfl) nFD hZD (hRows_off fun a ha q => nDas (q ▸ ha)) (by omega) (fun _ => rfl) rfl rfl rfl fun s sx => ?_
    let roj : Nat → Addr → BRow := fun j b => if b ∈ cs.take j then adv c (ro b) else ro b
    refine st_for sx (ev_var rfl rfl rfl) iter_list (fun j => [("candidate", tBytes.at c), ("sequences", (tList tRef).at cs), ("result", bVal (.ref D))])
      (fun J j => hAnd (hList (xI X' D) tBytes D (acc ++ [c])) (hRows as (roj j))) (fun b => b ∈ as) ?_ ?_ ?_ ?_ ?_ ?_ (.inl rfl) ?_ ?_ (fun _ => rfl) rfl
    · exact SubM.get ⟨rfl, rfl, rfl, trivial⟩
    · intro J h hJ om
      refine ⟨om.1, fun b hb => ?_⟩
      have : roj 0 b = ro b := by simp [roj]
      rw [this]; exact om.2 b hb
    · exact fun J j => offF faX
    · exact fun J j => hAnd_it hListB_it hRows_it
    · exact fun b hb => .inl (asX b hb)
    · exact fun b hb => .inl hb
    · intro j bj J s₁ s' hbj sx
      rw [List.getElem?_map] at hbj
      obtain ⟨b, hb, rfl⟩ := Option.map_eq_some_iff.mp hbj
      have hbm := List.mem_of_getElem? hb
      obtain ⟨hbas, c', t', hrb⟩ := hcIn b hbm
      have csnd : cs.Nodup := hcs ▸ nd.filter _
      have htk : cs.take (j + 1) = cs.take j ++ [b] := by rw [List.take_add_one, hb]; rfl
      have hnb : b ∉ cs.take j := fun q => by
        have h1 := (List.take_sublist (j + 1) cs).nodup csnd
        rw [htk, List.nodup_append] at h1
        exact h1.2.2 b q b (by simp) rfl
      have hrj : roj j b = ro b := if_neg hnb
      have hrs : ∀ x, roj (j + 1) x = if x = b then adv c (ro b) else roj j x := fun x => by
        show (if x ∈ cs.take (j + 1) then adv c (ro x) else ro x) = _
        rw [htk]
        by_cases q : x = b
        · subst q; simp
        · simp [q, roj]
      have hzz := hz2 b hbas
      refine st_if sx (ts_cmp (ev_itemL (x := c') (xs := roj j b) (ev_ownRow rfl rfl rfl fun h om => om.2 b hbas) ev_int (by decide) (by decide) (by rw [hrj, hrb]; rfl) (fun _ _ => rfl) (fun _ _ => rfl)) (ev_var rfl rfl rfl) op_eqBytes rfl) (fun h s sx => ?_) fun h s sx => st_nil ?_
      · have hcc : c' = c := of_decide_eq_true h
        subst hcc
        refine wpAny_execs_cons (wpAny_Delete (wpAny_deleteEach_cons (wpAny_delete_Subscript (Ev.use (ev_var (b := tRef.at b) rfl rfl rfl) sx.cx fun v s4 k4 c4 r4 => ?_))))
        obtain rfl : v = .ref b := r4
        refine Ev.use ev_int c4 fun v s5 k5 c5 r5 => ?_
        obtain ⟨tk, rfl⟩ := r5
        have sx5 := (sx.keep k4).keep k5
        obtain ⟨vs, l, bb⟩ := c5.om.2 b hbas
        rw [hrj, hrb] at bb
        have hlen := bb.length
        obtain ⟨v0, vs', rfl, bb'⟩ := bb.cons'
        refine del0 l (by rw [hlen, ← hrb]; omega) fun h' l' sb => wpAny_deleteEach_nil (st_nil (st_nil ⟨.inl rfl, ?_⟩))
        refine (sx5.turn (tk := s5.toks) (.inl (.inl (asX b hbas))) (asF b hbas) (.inl (.inr hbas)) (fun x o nb e => (sb.2 x nb).trans e) (let ⟨o, e, _⟩ := l'; ⟨o, e⟩) (Ω' := hAnd (hList (xI X' D) tBytes D (acc ++ [c'])) (hRows as (roj (j + 1)))) ⟨?_, fun x hx => ?_⟩).sub ⟨rfl, rfl, rfl, trivial⟩
        · exact hList_off (Z := fun y => y = b) (fun (q : D = b) => nDas (by rw [q]; exact hbas)) (fun y (q : y = b) => .inl (by rw [q]; exact asX b hbas)) _ _ (fun x o nb e => (sb.2 x nb).trans e) c5.om.1
        · rw [hrs x]
          by_cases q : x = b
          · subst q
            rw [if_pos rfl, hrb]
            exact ⟨vs', l', by simpa [adv] using bb'⟩
          · rw [if_neg q]
            obtain ⟨ws, ⟨o, ho, r⟩, bw⟩ := c5.om.2 x hx
            exact ⟨ws, ⟨o, (sb.2 x q).trans ho, r⟩, bw⟩
      · have hcc : c' ≠ c := of_decide_eq_false h
        refine st_nil ⟨.inl rfl, (sx.om (Ω' := hAnd (hList (xI X' D) tBytes D (acc ++ [c])) (hRows as (roj (j + 1)))) fun h' om => ⟨om.1, fun x hx => ?_⟩).sub ⟨rfl, rfl, rfl, trivial⟩⟩
        rw [hrs x]
        by_cases q : x = b
        · subst q
          rw [if_pos rfl, hrb, show adv c (c' :: t') = c' :: t' from if_neg hcc, ← hrb, ← hrj]
          exact om.2 x hx
        · rw [if_neg q]; exact om.2 x hx
    · intro J s sx
      rw [List.length_map] at sx
      refine st_nil ⟨k, Nat.lt_succ_self k, fun b => adv c (ro b), acc ++ [c], cs, hgo, fun b hb => ?_, by simp; omega, ?_, fun b hb => (hcIn b hb).1, hcl, ?_⟩
      · exact Nat.le_trans (adv_len c (ro b)) (hz2 b hb)
      · rw [← hcs]; exact filter_adv c
      · refine (sx.om (Ω' := hAnd (hList (xI X' D) tBytes D (acc ++ [c])) (hRows as fun b => adv c (ro b))) fun h' om => ⟨om.1, fun x hx => ?_⟩).sub ⟨rfl, rfl, trivial⟩
        have : roj cs.length x = adv c (ro x) := by
          show (if x ∈ cs.take cs.length then adv c (ro x) else ro x) = _
          rw [List.take_length]
          by_cases q : x ∈ cs
          · rw [if_pos q]
          · rw [if_neg q]
            have hne' : ¬ neR ro x = true := fun z => q (hcs ▸ List.mem_filter.mpr ⟨hx, z⟩)
            have : ro x = [] := by simpa [neR] using hne'
            rw [this]; rfl
        show ∃ vs, h'.IsList x vs.toArray ∧ BAll vs (adv c (ro x))
        rw [← this]
        exact om.2 x hx
end
end Mine
end

section
open PySem PySem.W PyProof.Rows
set_option maxRecDepth 100000
namespace Mine
set_option linter.unusedVariables false
set_option linter.unusedSimpArgs false
theorem sub_rt_base : isSubtype (.type "RuntimeError") (.type "BaseException") = pure true := by rw [isSubtype_type]; kernel_rfl
theorem sub_rt_rt : isSubtype (.type "RuntimeError") (.type "RuntimeError") = pure true := by rw [isSubtype_type]; kernel_rfl
theorem meta_rt : isSubtype (.type ((Manifest.find? "RuntimeError").elim "type" fun x => x.metatype)) (.type "tuple") = pure false := by
  have : ((Manifest.find? "RuntimeError").elim "type" fun x => x.metatype) = "type" := by decide +kernel
  rw [this, isSubtype_type]; kernel_rfl
/-- all kept but the rows; the frames' own but for slots -/
def KeepU (as : List Addr) (fr : List Addr) (s s' : Shared) : Prop := ∃ h' tk, s' = { s with heap := h', toks := tk } ∧ (∀ b o, s.heap.get? b = some o → b ∉ as → b ∉ fr → h'.get? b = some o) ∧
  (∀ b o, s.heap.get? b = some o → b ∉ as → (∀ vs, o.data ≠ .fields vs) → ∃ sl, h'.get? b = some { o with slots := sl })
section
variable {prog : Program} {w : World} {H0 : Heap}
theorem list2_eval {M : Model} {A : Around} {env : Env} {e1 e2 : Expr} {pos : Pos} {Q : Value → Shared → Prop} {E : Value → Shared → Prop} {s : Shared} (he1 : starEach [e1, e2] env = (false, eval e1 env) :: starEach [e2] env) (he2 : starEach [e2] env = (false, eval e2 env) :: starEach [] env)
    (h : wpAny M A (eval e1 env) (fun v1 s1 => wpAny M A (eval e2 env) (fun v2 s2 => Q (.ref s2.heap.objs.size) { s2 with heap := s2.heap.push { cls := .type "list", data := .seq [v1, v2].toArray } }) E s1) E s) :
    wpAny M A (eval (.List [e1, e2] pos) env) Q E s := by
  refine List_ ?_
  rw [he1]
  refine Calls.spliced_cons (wpAny_mono h (fun v1 s1 h1 => ?_) fun _ _ e => e)
  rw [he2]
  refine Calls.spliced_cons (wpAny_mono h1 (fun v2 s2 h2 => Calls.spliced_nil (wpAny_newObj_type h2 ?_)) fun _ _ e => e)
  show (2 : Nat) ≤ sizeLine
  rw [sizeLine_eq]; omega
/-- a def called whose contract is given at this state -/
theorem call_at {A : Around} {env : Env} {f : Str} {fa : Addr} {e : Expr} {p pos : Pos} {Q : Value → Shared → Prop} {E : Value → Shared → Prop} {s : Shared} {g : Γ} {Y : XS} {b : Bd} (hA : g.A = A) (henv : g.env = env) (c : Cx H0 g s)
    (hf : Ev prog w H0 g Y (.Name f p) (bVal (.ref fa))) (ha : Ev prog w H0 g g.X e b) (hfn : ∃ o fd, H0.get? fa = some o ∧ o.data = .func fd) (he : ∀ env, starEach [e] env = (false, eval e env) :: starEach [] env)
    (h : ∀ v s2, Keeps s s2 → Cx H0 g s2 → b.rel g.X s2.heap v → codeAny (model prog w) A (.call (.ref fa) ⟨[v], []⟩) (fun r s' => match r with | .ok (.ret v) => Q v s' | .ok _ => False | .error e => E e s') s2) :
    wpAny (model prog w) A (eval (.Call (.Name f p) [e] [] pos) env) Q E s := by
  subst hA henv
  obtain ⟨o, fd, ho, hd⟩ := hfn
  refine wpAny_Call_Name_kw (hf.use c fun v s1 k1 c1 r1 => ?_)
  obtain rfl : v = .ref fa := r1
  refine Calls.callWith_function (o := o) (fd := fd) (evalArgs_of he ?_)
  refine wpAny_mono (evs_cons ha evs_nil he s1 c1 E) (fun vs s2 q => ⟨⟨(c1.wd.kx (Kx.of_keep q.1.keep)).keep _ _ ho, hd⟩, ?_⟩) fun _ _ e => e
  obtain ⟨k2, _ | ⟨h1, _ | _⟩⟩ := q
  exact wpAny_call (h _ s2 (k1.trans k2) (c1.keep k2) h1)
theorem KOff.keepU {as fr : List Addr} {s s' : Shared} (k : KOff (fun a => a ∈ as) s s') : KeepU as fr s s' := by
  obtain ⟨h', tk, rfl, kq⟩ := k
  exact ⟨h', tk, rfl, fun b o e n _ => kq b o n e, fun b o e n _ => ⟨o.slots, kq b o n e⟩⟩
/-- the rows as a list of lists -/
theorem rows_rel {X : XS} {h : Heap} {R : Addr} {as : List Addr} {ro : Addr → BRow} (hR : h.IsList R (as.map Value.ref).toArray) (xR : ¬ X R) (hX : ∀ a ∈ as, ¬ X a) (hr : (hRows as ro).p h) : (tList (tList tBytes)).rel X h (.ref R) (as.map ro) := by
  refine ⟨R, as.map Value.ref, rfl, xR, hR, ?_⟩
  clear hR xR
  induction as with
  | nil => exact .nil
  | cons a as ih =>
    obtain ⟨vs, l, b⟩ := hr a (by simp)
    exact .cons ⟨a, vs, rfl, hX a (by simp), l, b⟩ (ih (fun x hx => hX x (by simp [hx])) fun x hx => hr x (by simp [hx]))
end
end Mine
end

section
open PySem PySem.W PyProof.Rows
set_option maxRecDepth 100000
namespace Mine
set_option linter.unusedVariables false
set_option linter.unusedSimpArgs false
abbrev MRes : Ty (Option BRow × List BRow) := tTwo (tOpt (tList tBytes)) (tList (tList tBytes))
section
variable {prog : Program} {w : World} {H0 : Heap}
/-- the answer of the merge: a new list of two -/
theorem res_rel {X : XS} {h : Heap} {R : Addr} {v : Value} {o : Option BRow} {as : List Addr} {ro : Addr → BRow} (lv : ¬ X h.objs.size)
    (hv : (tOpt (tList tBytes)).rel X h v o) (hR : h.IsList R (as.map Value.ref).toArray) (xR : ¬ X R) (hX : ∀ a ∈ as, ¬ X a) (hr : (hRows as ro).p h) :
    MRes.rel X (h.push { cls := .type "list", data := .seq [v, .ref R].toArray }) (.ref h.objs.size) (o, as.map ro) := by
  have kx : Kx X X h (h.push { cls := .type "list", data := .seq [v, .ref R].toArray }) := Kx.of_keep fun b o e => Heap.get?_push_of_some _ e
  exact ⟨_, v, .ref R, rfl, lv, isList_push_new, (tOpt (tList tBytes)).mono hv kx, (tList (tList tBytes)).mono (rows_rel hR xR hX hr) kx⟩
theorem ns_ref {A : Around} {env : Env} {n : Str} {p : Pos} {s : Shared} {m : Str → Option Value} {v : Value} {Q : Value → Shared → Prop} {E : Value → Shared → Prop} {M : Model} (hk : env.scope.kind = .function) (hl : env.kindOf n = some .local)
    (hn : s.heap.Ns env.locals m) (hv : m n = some v) (hd : (n == ("__debug__" : Str)) = false) (h : Q v s) : wpAny M A (eval (.Name n p) env) Q E s := wpAny_Name (wpAny_loadName_local hk hl hn hv h) hd

theorem fn_merge (W : W0 (hd.heap_1 w.params) H0) {A : Around} {s : Shared} {X : XS} {R : Addr} {as : List Addr} {ro : Addr → BRow} {outer : List Env} {Rs : Result → Shared → Prop}
    (ok : OkA A 2) (wd : Wd H0 X s.heap) (lv : Live X s.heap) (hR : s.heap.IsList R (as.map Value.ref).toArray) (xR : ¬ X R) (nR : R ∉ as) (nd : as.Nodup) (hXa : ∀ a ∈ as, ¬ X a) (hH : ∀ a ∈ as, H0.get? a = none)
    (hrows : (hRows as ro).p s.heap) (hz : as.length ≤ 1000) (hz2 : ∀ a ∈ as, (ro a).length ≤ 1000)
    (hfr : A.frames = some outer) (hfun : ∀ env ∈ outer, env.scope.kind ≠ .module ∧ ∃ L o, env.frame = some L ∧ s.heap.get? L = some o ∧ (∀ vs, o.data ≠ .fields vs) ∧ X L)
    {n : Nat} (hn : n ≤ 1000) {out : Option BRow × List BRow} (hc : c3f n (as.map ro) [] = some out)
    (hRs : ∀ v s', KeepU as (outer.filterMap (·.frame)) s s' → (MRes.at out).rel X s'.heap v → Rs (.ok (.ret v)) s') :
    codeAny (model prog w) A (.call (.ref 199) ⟨[.ref R], []⟩) Rs s := by
  refine fn_introG (n := 1) (ρ := [("rows", bVal (.ref R))]) W rfl rfl rfl rfl rfl ok wd lv [("rows", .ref R)] (BindsTo.of_eq rfl) (.cons ⟨rfl, rfl⟩ .nil) ?_ rfl rfl rfl
  intro L X' s' hX' hX2 hL kp sx
  have rowIn : ∀ a ∈ as, ∃ o, s.heap.get? a = some o := fun a ha => let ⟨_, ⟨o, ho, _⟩, _⟩ := hrows a ha; ⟨o, ho⟩
  have asX : ∀ a ∈ as, ¬ X' a := fun a ha q => by
    obtain ⟨o, e⟩ := rowIn a ha
    rcases hX2 a q with q | q
    · exact hXa a ha q
    · rw [q] at e; cases e
  have xR' : ¬ X' R := fun q => by
    obtain ⟨o, e, _⟩ := hR
    rcases hX2 R q with q | q
    · exact xR q
    · rw [q] at e; cases e
  have xL : X' L := sx.cx.fr.xl
  refine wpAny_execs_cons (wpAny_Try_except ?_)
  refine wpAny_execs_cons (wpAny_Return_some (list2_eval rfl rfl ?_))
  refine call_at (g := ⟨A.deeper _, X', _, _, hTrue, 1⟩) rfl rfl sx.cx (ev_glob W rfl nm_c3_merge rfl) (ev_var (b := bVal (.ref R)) rfl rfl rfl) ⟨_, _, W.kin 35 _ rfl, rfl⟩ (fun _ => rfl) fun v s2 k2 c2 r2 => ?_
  obtain rfl : v = .ref R := r2
  have kp2 := kp.trans k2
  obtain ⟨mm, hmm, hvars⟩ := c2.fr.vars
  have hmR : mm "rows" = some (.ref R) := by
    obtain ⟨v, hv, q⟩ := hvars "rows" (bVal (.ref R)) rfl
    obtain rfl : v = .ref R := hv
    rcases q with ⟨_, q⟩ | ⟨q | q, _⟩
    · exact q
    · cases q
    · cases q
  obtain ⟨oL, esL, epL, hoL, hdL, _⟩ := id hmm
  have hR2 := (isList_kx (Kx.of_keep (X := X') kp2.keep) xR' hR).2
  refine fn_c3 W (outer := envF _ _ L 199 _ :: outer) (c2.ok.le (Nat.le_refl _)) c2.wd c2.live hR2 xR' nR nd asX hH ((hRows as ro).mono hrows kp2.keep) hz hz2 (Around.frames_deeper hfr) ?_ hn hc ?_ ?_
  · intro env he
    rcases List.mem_cons.mp he with rfl | he
    · exact ⟨(by intro q; cases q), L, oL, rfl, hoL, (fun vs q => by rw [hdL] at q; cases q), fun q => asX L q xL⟩
    · obtain ⟨h1, L', o, h2, h3, h4, h5⟩ := hfun env he
      exact ⟨h1, L', o, h2, kp2.keep _ _ h3, h4, fun q => hXa L' q h5⟩
  · rintro acc ro' v s3 rfl ko hro hv
    have hmm3 : s3.heap.Ns L mm := hmm.at' fun o e => ko.get (fun q => asX L q xL) e
    refine ns_ref rfl rfl hmm3 hmR rfl ?_
    refine ⟨_, rfl, hRs _ _ ?_ ?_⟩
    · refine KOff.keepU ((KOff.of_keeps kp2).trans (ko.trans (KOff.of_keeps (Z := fun a => a ∈ as) (Keeps.push s3 _)) fun b o nb e => ⟨nb, nb⟩) fun b o nb e => ⟨nb, nb⟩)
    · have hR3 : s3.heap.IsList R (as.map Value.ref).toArray := let ⟨o, ho, r⟩ := hR2; ⟨o, ko.get nR ho, r⟩
      have lv3 : ¬ X s3.heap.objs.size := fun q => by
        obtain ⟨o, e⟩ := lv _ q
        have := ko.get (fun z => hXa _ z q) (kp2.keep _ _ e)
        exact Nat.lt_irrefl _ (Heap.lt_size this)
      refine res_rel lv3 ((tList tBytes).mono hv fun b o nb e => ⟨fun q => nb (hX' b q), e⟩) hR3 xR hXa hro
  · rintro ro' e t L3 s3 h3 base rfl ko hro hL3 hbase fl up
    have hmm3 : s3.heap.Ns L mm := hmm.at' fun o e => ko.get (fun q => asX L q xL) e
    have hbK : ∀ b o, s2.heap.get? b = some o → b ∉ as → b ≠ L → b ∉ outer.filterMap (·.frame) → base.get? b = some o := fun b o e nb nL nO => by
      have e3 := ko.get (Z := fun a => a ∈ as) nb e
      refine hbase b o e3 (fun q => ?_) fun q => ?_
      · rw [q, hL3] at e; cases e
      · rw [List.filterMap_cons] at q
        rcases List.mem_cons.mp q with q | q
        · exact nL q
        · exact nO q
    have outX : ∀ L' ∈ outer.filterMap (·.frame), X L' := fun L' q => by
      obtain ⟨env, he, hf⟩ := List.mem_filterMap.mp q
      obtain ⟨_, L2, _, h2, _, _, h5⟩ := hfun env he
      rw [h2] at hf; cases hf; exact h5
    refine wpAny_looks_onW (Around.frames_deeper hfr) rfl fl fun h4 hheld4 hsm4 => ?_
    refine wpAny_landsW hheld4 fun h5 hheld hsm5 => ?_
    obtain ⟨ob, hob, hobc⟩ := hheld.there
    have keep0 : ∀ {h : Heap}, base.StaysIn h → Keep H0 h := fun st b o e => by
      obtain ⟨e2, nx⟩ := c2.wd.stay b o e
      exact st b o (hbK b o e2 (fun q => by rw [hH b q] at e; cases e) (fun q => nx (q ▸ xL)) fun q => nx (hX' b (outX b q)))
    refine wpAny_handleBy_builtin (X := "RuntimeError") (T := "RuntimeError") (b := true) sub_rt_base meta_rt sub_rt_rt ?_
    obtain ⟨mg, mb, hg, hb, hbb⟩ := W.ns
    refine Calls.Name_function_global rfl rfl (Calls.loadGlobal_builtin (hg.keeps (keep0 hheld.1)) (mg_none_of W.kin hg nb_RuntimeError) (hb.keeps (keep0 hheld.1)) ((hbb "RuntimeError" (by decide)).trans rfl) ⟨rfl, ⟨ob, hob, hobc⟩, ?_⟩) rfl
    simp only [if_true]
    refine lands_againW hheld fun h6 fl6 hsm6 => ?_
    have up6 : s3.heap.UpToSlots h6 := ((up.trans hsm4).trans hsm5).trans hsm6
    have hmm6 : h6.Ns L mm := up6.ns hmm3
    refine wpAny_execs_cons (wpAny_Return_some (list2_eval rfl rfl ?_))
    refine wpAny_pure (ns_ref rfl rfl hmm6 hmR rfl ?_)
    have old6 : ∀ b o, s2.heap.get? b = some o → b ∉ as → b ≠ L → b ∉ outer.filterMap (·.frame) → h6.get? b = some o := fun b o e nb nL nO => fl6.1 b o (hbK b o e nb nL nO)
    have nRO : R ∉ outer.filterMap (·.frame) := fun q => xR (outX R q)
    have asO : ∀ a ∈ as, a ∉ outer.filterMap (·.frame) := fun a ha q => hXa a ha (outX a q)
    have sL : ∀ b o, s.heap.get? b = some o → b ≠ L := fun b o e q => by rw [q, hL] at e; cases e
    have old : ∀ b o, s.heap.get? b = some o → b ∉ as → b ∉ outer.filterMap (·.frame) → h6.get? b = some o := fun b o e nb nO => old6 b o (kp2.keep _ _ e) nb (sL b o e) nO
    have oldS : ∀ b o, s.heap.get? b = some o → b ∉ as → (∀ vs, o.data ≠ .fields vs) → ∃ sl, h6.get? b = some { o with slots := sl } := fun b o e nb nf => up6 b o (ko.get (Z := fun a => a ∈ as) nb (kp2.keep _ _ e)) nf
    have lv6 : ¬ X h6.objs.size := fun q => by
      obtain ⟨o, e⟩ := lv _ q
      have nb : h6.objs.size ∉ as := fun z => hXa _ z q
      by_cases z : h6.objs.size ∈ outer.filterMap (·.frame)
      · obtain ⟨env, he, hf⟩ := List.mem_filterMap.mp z
        obtain ⟨_, L2, o2, h2, h3, h4, _⟩ := hfun env he
        rw [h2] at hf; cases hf
        obtain ⟨sl, e6⟩ := oldS _ o2 h3 nb h4
        exact Nat.lt_irrefl _ (Heap.lt_size e6)
      · exact Nat.lt_irrefl _ (Heap.lt_size (old _ o e nb z))
    have hro6 : (hRows as ro').p h6 := fun a ha => by
      obtain ⟨vs, ⟨o, ho, hc', n', hd'⟩, b⟩ := hro a ha
      obtain ⟨sl, e6⟩ := up6 a o ho fun vs q => by rw [hd'] at q; cases q
      exact ⟨vs, ⟨_, e6, hc', n', hd'⟩, b⟩
    have hR6 : h6.IsList R (as.map Value.ref).toArray := by
      obtain ⟨o, ho, r⟩ := hR
      exact ⟨o, old R o ho nR nRO, r⟩
    refine ⟨_, rfl, hRs _ _ ?_ ?_⟩
    · obtain ⟨hh3, t3, e3, _⟩ := (KOff.of_keeps (Z := fun a => a ∈ as) kp2).trans ko fun b o nb e => ⟨nb, nb⟩
      refine ⟨_, s3.toks, by rw [e3], fun b o e nb nO => Heap.get?_push_of_some _ (old b o e nb nO), fun b o e nb nf => ?_⟩
      obtain ⟨sl, e6⟩ := oldS b o e nb nf
      exact ⟨sl, Heap.get?_push_of_some _ e6⟩
    · exact res_rel lv6 (show (tOpt (tList tBytes)).rel X h6 Value.none none from rfl) hR6 xR hXa hro6
end
end Mine
end

section
open PySem PySem.W PyProof.Rows
namespace Mine
set_option linter.unusedVariables false
section
variable {prog : Program} {w : World} {H0 : Heap} {Z X : XS} {s₀ s : Shared} {A : Around} {env : Env} {ρ : List (Str × Bd)} {Ω : Hp} {m : Nat}
/-- a for whose turns make exclusive objects -/
theorem exec_forX {iter : Expr} {x : Str} {px pos : Pos} {body orelse : List Stmt} {b : Bd} {bs : List Bd} {E : Value → Shared → Prop} {Q : Flow → Shared → Prop}
    (sx : Sx H0 Z s₀ ⟨A, X, env, ρ, Ω, m⟩ s) (he : Ev prog w H0 ⟨A, X, env, ρ, Ω, m⟩ X iter b) (hI : Iter prog w H0 ⟨A, X, env, ρ, Ω, m⟩ b bs)
    (ρs : Nat → List (Str × Bd)) (Ωs : XS → XS → Nat → Hp) (Zb : XS)
    (h0 : ∀ n b, (ρs 0).lookup n = some b → ρ.lookup n = some b) (hΩ0 : ∀ W X₁, (∀ a, Zb a → W a) → (∀ a, X a → X₁ a) → ∀ h, Ω.p h → (Ωs W X₁ 0).p h) (hΩF : ∀ W X i, (Ωs W X i).StOff (Fa env)) (hΩI : ∀ W X I i, (Ωs W X i).StIt I)
    (hZX : ∀ a, Zb a → X a) (hZ : ∀ a, Zb a → Z a ∨ s₀.heap.get? a = none) (hFZ : ∀ a, Fa env a → Zb a)
    (hk : env.kindOf x = some .local ∨ (env.kindOf x = some .cell ∧ (env.cells.lookup x).isSome = true))
    (hbody : ∀ i bi W X₁ s₁ s', bs[i]? = some bi → (∀ a, Zb a → W a) → (∀ a, W a → Zb a ∨ s.heap.get? a = none) → (∀ s'', KOff W s₁ s'' → Live X s''.heap → ∀ a, s''.heap.get? a = none → W a) → (∀ a, X a → X₁ a) →
      Sx H0 W s₁ ⟨A, X₁, env, (x, bi) :: ρs i, Ωs W X₁ i, m⟩ s' →
      wpAny (model prog w) A (execs body env) (fun fl s'' => (fl = .next ∨ fl = .cont) ∧ ∃ X₂, (∀ a, X₁ a → X₂ a) ∧ (∀ a, X₂ a → X₁ a ∨ W a) ∧ Sx H0 W s₁ ⟨A, X₂, env, ρs (i + 1), Ωs W X₂ (i + 1), m⟩ s'') (fun _ _ => False) s')
    (hend : ∀ W X₁ Xe I s', (∀ a, X a → Xe a) → (∀ a, Xe a → X a ∨ s.heap.get? a = none) → (∀ a, W a → Zb a ∨ s.heap.get? a = none) → ¬ W I → (∀ a, Xe a ↔ X₁ a ∧ a ≠ I) → Sx H0 Z s₀ ⟨A, Xe, env, ρs bs.length, Ωs W X₁ bs.length, m⟩ s' → Q .next s')
    (hs : ∀ x, foldedSetIterable iter env x = pure x) (hor : orelse = []) :
    wpAny (model prog w) A (exec (.For (.Name x px) iter body orelse pos) env) Q E s := by
  subst hor
  refine wpAny_For (he.use sx.cx fun v s1 k1 c1 r1 => hI s1 v _ _ c1 r1 fun I s2 St P fp o fs k12 hI0 eI dI Wk st hIf hfp hitem => ?_) hs
  have sx1 := sx.keep k1
  have IX : ¬ X I := fun q => by obtain ⟨o, e⟩ := c1.live I q; rw [hI0] at e; cases e
  let W : XS := fun a => a ≠ I ∧ (Zb a ∨ s1.heap.get? a = none)
  have WnI : ¬ W I := fun q => q.1 rfl
  have ZW : ∀ a, Zb a → W a := fun a q => ⟨fun e => IX (by rw [← e]; exact hZX a q), .inl q⟩
  have faX : ∀ a, Fa env a → X a := fun a fa => c1.fr.fa_x fa
  have IF : ¬ Fa env I := fun q => IX (faX I q)
  have fr1s : ∀ a, s1.heap.get? a = none → s.heap.get? a = none := fun a e => Keep.none k1.keep e
  let WI : XS := fun a => W a ∨ a = I
  have wiX : ∀ a o, ¬ X a → s1.heap.get? a = some o → ¬ WI a := by
    rintro a o nX e (⟨_, q | q⟩ | q)
    · exact nX (hZX a q)
    · rw [q] at e; cases e
    · rw [q, hI0] at e; cases e
  have mkKx : ∀ {s' : Shared} {X₁ : XS}, (∀ a, X₁ a → X a ∨ s1.heap.get? a = none) → KOff WI s1 s' → Kx X X₁ s1.heap s'.heap := fun hx ko b o nb e =>
    ⟨fun q => (hx b q).elim nb fun q => (by rw [q] at e; cases e), ko.get (wiX b o nb e) e⟩
  refine codeAny_forLoop (fun k s' => ∃ i X₁, i ≤ bs.length ∧ k = bs.length + 1 - i ∧ (∀ a, X a → X₁ a) ∧ X₁ I ∧ (∀ a, X₁ a → X a ∨ s1.heap.get? a = none) ∧ KOff WI s1 s' ∧ Frame X₁ env (ρs i) s'.heap ∧ Live X₁ s'.heap ∧ (Ωs W X₁ i).p s'.heap ∧ St i s'.heap) ?_ (bs.length + 1)
    ⟨0, xI X I, Nat.zero_le _, rfl, fun a q => .inl q, .inr rfl, fun a q => q.imp id fun (q : a = I) => by rw [q]; exact hI0, KOff.of_keeps k12, ?_, ?_, ?_, st⟩
  · rintro k s' ⟨i, X₁, hi, rfl, hX1, hI1, hX1n, ko, fr, lv, om, st'⟩
    obtain ⟨oI, fsI, eI', dI'⟩ := hIf _ _ st'
    by_cases hlt : i < bs.length
    · refine Wk.item i _ _ _ hlt st' fun v h1 tk1 hP st1 hk1 => ?_
      have hk1' : ∀ b o, b ≠ I → s'.heap.get? b = some o → h1.get? b = some o := fun b o nb e => hk1 b o (by simpa using nb) e
      have ko1 : KOff WI s1 { s' with heap := h1, toks := tk1 } := by
        obtain ⟨hh, tt, rfl, kq⟩ := ko
        exact ⟨h1, tk1, rfl, fun b o nb e => hk1' b o (fun q => nb (.inr q)) (kq b o nb e)⟩
      have fr1 : Frame X₁ env (ρs i) h1 := fr.off (Z := fun a => a = I) (fun b o nb e => hk1' b o nb e) (fun a q => q ▸ hI1) (fun a q => q ▸ IF)
      obtain ⟨oI1, fsI1, eI1, dI1⟩ := hIf _ _ st1
      have lv1 : Live X₁ h1 := fun a q => by
        by_cases z : a = I
        · subst z; exact ⟨oI1, eI1⟩
        · obtain ⟨o, e⟩ := lv a q; exact ⟨o, hk1' a o z e⟩
      obtain ⟨bi, hbi⟩ : ∃ bi, bs[i]? = some bi := ⟨bs[i], by simp [hlt]⟩
      have hb : bi.rel X₁ h1 v := hitem i v X₁ h1 bi hbi hP (mkKx hX1n ko1)
      have cx1 : Cx H0 ⟨A, X₁, env, ρs i, Ωs W X₁ i, m⟩ { s' with heap := h1, toks := tk1 } := ⟨fr1, c1.wd.kx (mkKx hX1n ko1), lv1, hΩI W X₁ I i _ _ _ _ eI' dI' hk1' om, c1.ok⟩
      refine wpAny_assign_Name (storeC (g := ⟨A, X₁, env, ρs i, Ωs W X₁ i, m⟩) (b := bi) cx1 hb (fun a h' fn sb => hΩF W X₁ i _ _ (fun b o nb e => (sb.2 b fun q => nb (q ▸ fn.imp id fun e => ⟨x, e⟩)).trans e) cx1.om) hk fun s2' a cx2 fn ka => ?_)
      have fa2 : Fa env a := fn.imp id fun e => ⟨x, e⟩
      have sx2 : Sx H0 W { s' with heap := h1, toks := tk1 } ⟨A, X₁, env, (x, bi) :: ρs i, Ωs W X₁ i, m⟩ s2' :=
        ⟨cx2, ka.mono fun b q => ZW b (hFZ b ((show b = a from q) ▸ fa2)), .inl (ZW _ (hFZ _ (.inl rfl))), fun n c e => .inl (ZW _ (hFZ _ (.inr ⟨n, e⟩)))⟩
      have hfresh : ∀ s'', KOff W { s' with heap := h1, toks := tk1 } s'' → Live X s''.heap → ∀ a, s''.heap.get? a = none → W a := by
        intro s'' k lvx a e
        refine ⟨fun q => ?_, .inr ?_⟩
        · subst q
          have := k.get WnI eI1
          rw [e] at this; cases this
        · cases q : s1.heap.get? a with
          | none => rfl
          | some o =>
            by_cases hw : WI a
            · rcases hw with ⟨_, z | z⟩ | z
              · obtain ⟨o', e'⟩ := lvx a (hZX a z); rw [e] at e'; cases e'
              · rw [z] at q; cases q
              · rw [z, hI0] at q; cases q
            · have := k.get (fun z => hw (.inl z)) (ko1.get hw q)
              rw [e] at this; cases this
      refine wpAny_mono (hbody i bi W X₁ _ s2' hbi ZW (fun a q => q.2.imp id (fr1s a)) hfresh hX1 sx2) (fun fl s3 q3 => ?_) fun _ _ e => e.elim
      obtain ⟨hfl, X₂, h12, h2n, sx3⟩ := q3
      have fin : ∃ m', m' < bs.length + 1 - i ∧ ∃ i' X₁, i' ≤ bs.length ∧ m' = bs.length + 1 - i' ∧ (∀ a, X a → X₁ a) ∧ X₁ I ∧ (∀ a, X₁ a → X a ∨ s1.heap.get? a = none) ∧ KOff WI s1 s3 ∧ Frame X₁ env (ρs i') s3.heap ∧ Live X₁ s3.heap ∧ (Ωs W X₁ i').p s3.heap ∧ St i' s3.heap := by
        refine ⟨bs.length + 1 - (i + 1), by omega, i + 1, X₂, hlt, rfl, fun a q => h12 a (hX1 a q), h12 I hI1, fun a q => (h2n a q).elim (hX1n a) fun q => q.2.imp (hZX a) id, ko1.trans sx3.k0 fun b o nb e => ⟨nb, fun q => nb (.inl q)⟩, sx3.cx.fr, sx3.cx.live, sx3.cx.om, Wk.frame _ _ _ st1 fun b hb o e => sx3.k0.get (fun q => ?_) e⟩
        rcases hfp b hb with z | ⟨z, o', z'⟩
        · exact WnI (z ▸ q)
        · exact wiX b o' z z' (.inl q)
      rcases hfl with rfl | rfl
      · exact fin
      · exact fin
    · have hin : i = bs.length := by omega
      subst hin
      refine Wk.done _ _ _ st' fun h1 tk1 hk1 => wpAny_execs_nil (hend W X₁ (fun a => X₁ a ∧ a ≠ I) I _ (fun a q => ⟨hX1 a q, fun e => IX (e ▸ q)⟩) (fun a q => (hX1n a q.1).imp id (fr1s a)) (fun a q => q.2.imp id (fr1s a)) WnI (fun a => Iff.rfl) ?_)
      have hk1' : ∀ b o, b ≠ I → s'.heap.get? b = some o → h1.get? b = some o := fun b o nb e => hk1 b o (by simpa using nb) e
      have ko1 : KOff WI s1 { s' with heap := h1, toks := tk1 } := by
        obtain ⟨hh, tt, rfl, kq⟩ := ko
        exact ⟨h1, tk1, rfl, fun b o nb e => hk1' b o (fun q => nb (.inr q)) (kq b o nb e)⟩
      have fr1 : Frame X₁ env (ρs bs.length) h1 := fr.off (Z := fun a => a = I) (fun b o nb e => hk1' b o nb e) (fun a q => q ▸ hI1) (fun a q => q ▸ IF)
      refine ⟨⟨fr1.narrow (fun a q => q.1) (fun a fa => ⟨hX1 a (faX a fa), fun e => IF (e ▸ fa)⟩), ((c1.wd.kx (mkKx hX1n ko1))).kx fun b o nb e => ⟨fun q => nb q.1, e⟩, fun a q => ?_, hΩI W X₁ I _ _ _ _ _ eI' dI' hk1' om, c1.ok⟩, ?_, sx.wl, sx.wc⟩
      · obtain ⟨o, e⟩ := lv a q.1
        exact ⟨o, hk1' a o q.2 e⟩
      · refine sx1.k0.trans ko1 fun b o nb e => ⟨nb, fun q => ?_⟩
        rcases q with ⟨_, q | q⟩ | q
        · rcases hZ b q with z | z
          · exact nb z
          · rw [z] at e; cases e
        · have := sx1.k0.get nb e
          rw [q] at this; cases this
        · have := sx1.k0.get nb e
          rw [q, hI0] at this; cases this
  · exact ((c1.fr.widen (X' := xI X I) (fun a q => .inl q) fun b o nb e q => q.elim nb fun q => (by rw [q, hI0] at e; cases e)).keep k12.keep).sub h0
  · rintro a (q | q)
    · obtain ⟨o, e⟩ := c1.live a q; exact ⟨o, k12.keep a o e⟩
    · subst q; exact ⟨o, eI⟩
  · exact (Ωs W (xI X I) 0).mono (hΩ0 W (xI X I) ZW (fun a q => .inl q) _ c1.om) k12.keep
theorem st_forX {iter : Expr} {x : Str} {px pos : Pos} {body orelse rest : List Stmt} {b : Bd} {bs : List Bd} {E : Value → Shared → Prop} {Q : Flow → Shared → Prop}
    (sx : Sx H0 Z s₀ ⟨A, X, env, ρ, Ω, m⟩ s) (he : Ev prog w H0 ⟨A, X, env, ρ, Ω, m⟩ X iter b) (hI : Iter prog w H0 ⟨A, X, env, ρ, Ω, m⟩ b bs)
    (ρs : Nat → List (Str × Bd)) (Ωs : XS → XS → Nat → Hp) (Zb : XS)
    (h0 : SubM ρ (ρs 0)) (hΩ0 : ∀ W X₁, (∀ a, Zb a → W a) → (∀ a, X a → X₁ a) → ∀ h, Ω.p h → (Ωs W X₁ 0).p h) (hΩF : ∀ W X i, (Ωs W X i).StOff (Fa env)) (hΩI : ∀ W X I i, (Ωs W X i).StIt I)
    (hZX : ∀ a, Zb a → X a) (hZ : ∀ a, Zb a → Z a ∨ s₀.heap.get? a = none) (hFZ : ∀ a, Fa env a → Zb a)
    (hk : env.kindOf x = some .local ∨ (env.kindOf x = some .cell ∧ (env.cells.lookup x).isSome = true))
    (hbody : ∀ i bi W X₁ s₁ s', bs[i]? = some bi → (∀ a, Zb a → W a) → (∀ a, W a → Zb a ∨ s.heap.get? a = none) → (∀ s'', KOff W s₁ s'' → Live X s''.heap → ∀ a, s''.heap.get? a = none → W a) → (∀ a, X a → X₁ a) →
      Sx H0 W s₁ ⟨A, X₁, env, (x, bi) :: ρs i, Ωs W X₁ i, m⟩ s' →
      wpAny (model prog w) A (execs body env) (fun fl s'' => (fl = .next ∨ fl = .cont) ∧ ∃ X₂, (∀ a, X₁ a → X₂ a) ∧ (∀ a, X₂ a → X₁ a ∨ W a) ∧ Sx H0 W s₁ ⟨A, X₂, env, ρs (i + 1), Ωs W X₂ (i + 1), m⟩ s'') (fun _ _ => False) s')
    (hend : ∀ W X₁ Xe I s', (∀ a, X a → Xe a) → (∀ a, Xe a → X a ∨ s.heap.get? a = none) → (∀ a, W a → Zb a ∨ s.heap.get? a = none) → ¬ W I → (∀ a, Xe a ↔ X₁ a ∧ a ≠ I) → Sx H0 Z s₀ ⟨A, Xe, env, ρs bs.length, Ωs W X₁ bs.length, m⟩ s' → wpAny (model prog w) A (execs rest env) Q E s')
    (hs : ∀ x, foldedSetIterable iter env x = pure x) (hor : orelse = []) :
    wpAny (model prog w) A (execs (.For (.Name x px) iter body orelse pos :: rest) env) Q E s :=
  wpAny_execs_cons (exec_forX sx he hI ρs Ωs Zb h0.get hΩ0 hΩF hΩI hZX hZ hFZ hk hbody hend hs hor)
end
end Mine
end

section
open PySem PySem.W PyProof.Rows
namespace Mine
set_option linter.unusedVariables false
section
variable {prog : Program} {w : World} {H0 : Heap} {Z X0 X : XS} {s₀ s : Shared} {A : Around} {env : Env} {ρ : List (Str × Bd)} {Ω : Hp} {m : Nat} {pos p : Pos} {e : Expr} {b r : Bd} {E : Value → Shared → Prop} {Q : Flow → Shared → Prop} {rest : List Stmt} {α β : Type} {t : Ty α} {u : Ty β} {g : Γ} {Y Y1 Y2 : XS}
theorem dictOf_at {h h' : Heap} {a : Addr} {kvs : List (Int × Value)} (x : h.DictOf (intKind prog w) a kvs) (hk : ∀ o, h.get? a = some o → h'.get? a = some o) : h'.DictOf (intKind prog w) a kvs :=
  let ⟨o, es, ep, ho, r⟩ := x; ⟨o, es, ep, hk o ho, r⟩
/-- a dict with ints for keys -/
def tDict (prog : Program) (w : World) {α : Type} (t : Ty α) : Ty (List (Int × α)) := ⟨fun X h v xs => ∃ a kvs, v = .ref a ∧ ¬ X a ∧ a ≠ sysModules ∧ h.DictOf (intKind prog w) a kvs ∧ All2 (fun (kv : Int × Value) (x : Int × α) => kv.1 = x.1 ∧ t.rel X h kv.2 x.2) kvs xs, by
  rintro X X' h h' v xs ⟨a, kvs, rfl, n, ns, d, r⟩ k
  obtain ⟨o, ho⟩ : ∃ o, h.get? a = some o := let ⟨o, _, _, ho, _⟩ := d; ⟨o, ho⟩
  exact ⟨a, kvs, rfl, (k a o n ho).1, ns, dictOf_at d fun o e => (k a o n e).2, r.imp fun _ _ q => ⟨q.1, t.mono q.2 k⟩⟩⟩
theorem valueAt_cons (k : Int) (q : Int × Value) (kvs : List (Int × Value)) : valueAt (q :: kvs) k = if q.1 = k then some q.2 else valueAt kvs k := by
  unfold valueAt
  by_cases h : q.1 = k
  · simp [h]
  · simp [h]
theorem dict_get {R : Value → α → Prop} {k : Int} : ∀ {kvs : List (Int × Value)} {xs : List (Int × α)}, All2 (fun (kv : Int × Value) (x : Int × α) => kv.1 = x.1 ∧ R kv.2 x.2) kvs xs → (xs.lookup k = none → valueAt kvs k = none) ∧ (∀ x, xs.lookup k = some x → ∃ v, valueAt kvs k = some v ∧ R v x)
  | _, _, .nil => ⟨fun _ => rfl, fun x h => by simp at h⟩
  | _, _, .cons (a := (k1, v1)) (b := (k2, x2)) h tl => by
    obtain ⟨rfl, hr⟩ := h
    obtain ⟨i1, i2⟩ := dict_get (k := k) tl
    rw [List.lookup_cons, valueAt_cons]
    by_cases q : k1 = k
    · subst q
      simp only [beq_self_eq_true, if_true]
      exact ⟨fun h => by simp at h, fun x hx => by simp at hx; subst hx; exact ⟨v1, rfl, hr⟩⟩
    · have : (k == k1) = false := by simpa using fun e => q e.symm
      simp only [this, q, if_false]
      exact ⟨i1, i2⟩
theorem sys_ne {a : Addr} (h : a ≠ sysModules) : (a == sysModules) = false := by simpa using h
theorem ev_itemD {value slice : Expr} {xs : List (Int × α)} {k : Int} {x : α} (hl : Ev prog w H0 g Y1 value ((tDict prog w t).at xs)) (hi : Ev prog w H0 g Y2 slice (tInt.at k)) (hx : xs.lookup k = some x)
    (hs : ∀ o i, subscripted slice false o i = operate [o, i] (getItem o i)) (ht : ∀ o r, letTemporaryGo value o r = pure ()) : Ev prog w H0 g Y1 (.Subscript value slice pos) (t.at x) := by
  intro s c E
  refine Subscript_ (hl.use c fun v1 s1 k1 c1 r1 => hi.use c1 fun v2 s2 k2 c2 r2 => ?_)
  obtain ⟨a, kvs, rfl, n, ns, d, r⟩ := ((tDict prog w t).at xs).keep r1 k2
  obtain ⟨tk, rfl⟩ := r2
  obtain ⟨v, hv, hr⟩ := (dict_get (k := k) r).2 x hx
  exact subscriptTail_builtin d.typeIs slot_dict_getitem.lookup (wpAny_getItem_of (intKind_is prog w k tk) d.mapOf hv ⟨(k1.trans k2).trans (Keeps.tok _ _), hr⟩) (hs _ _) (ht _)
theorem op_notInD {k : Int} {xs : List (Int × α)} : OpOk prog w H0 g (compareOp .NotIn) Y1 (tInt.at k) Y2 ((tDict prog w t).at xs) Y (tBool.at (!(xs.lookup k).isSome)) := by
  rintro s v1 v2 E c ⟨tk, rfl⟩ ⟨a, kvs, rfl, n, ns, d, r⟩
  refine wpAny_notIn_of (intKind_is prog w k tk) (sys_ne ns) d.mapOf ⟨Keeps.tok _ _, ?_⟩
  show Value.bool _ = Value.bool _
  obtain ⟨i1, i2⟩ := dict_get (k := k) r
  cases hx : xs.lookup k with
  | none => rw [i1 hx]; rfl
  | some x => obtain ⟨v, hv, _⟩ := i2 x hx; rw [hv]; rfl
theorem iter_dict {xs : List (Int × α)} : Iter prog w H0 g ((tDict prog w t).at xs) (xs.map fun x => tInt.at x.1) := by
  rintro s v E Q c ⟨a, kvs, rfl, n, ns, d, r⟩ h
  obtain ⟨ep, da⟩ := d.dictAt
  refine wpAny_pyIter_dict (sys_ne ns) da ?_
  obtain ⟨oa, hoa⟩ : ∃ o, s.heap.get? a = some o := let ⟨o, _, ho, _⟩ := da; ⟨o, ho⟩
  have hne : a ≠ s.heap.objs.size := Nat.ne_of_lt (Heap.lt_size hoa)
  have hn : s.heap.get? s.heap.objs.size = none := get_none_of_size (Nat.le_refl _)
  have W := Walks.dictKeys (prog := prog) (w := w) (knd := intKind prog w) c.ok.hh s.heap.objs.size a hne kvs ep
  have hlen : kvs.length = (xs.map fun x => tInt.at x.1).length := by simp [r.length]
  rw [hlen] at W
  refine h s.heap.objs.size _ _ _ _ _ _ (Keeps.push s _) hn (Heap.get?_push_size _ rfl) rfl W ?_ (fun h i st => ?_) ?_ ?_
  · refine ⟨?_, da.push _⟩
    rw [← hlen]
    exact ⟨_, Heap.get?_push_size _ rfl, rfl, rfl⟩
  · obtain ⟨⟨o, ho, _, hd⟩, _⟩ := st
    exact ⟨o, _, ho, hd⟩
  · intro b hb
    rcases List.mem_cons.mp hb with rfl | hb
    · exact .inl rfl
    · rcases List.mem_cons.mp hb with rfl | hb
      · exact .inr ⟨n, oa, hoa⟩
      · cases hb
  · intro i v X' h' bi hbi hP kx
    obtain ⟨k, x, hkv, hk⟩ := hP
    obtain ⟨x', hx', hr⟩ := r.get hkv
    rw [List.getElem?_map, hx'] at hbi
    cases hbi
    have hk' : Value.isInt k v = true := hk
    obtain ⟨tk, rfl⟩ := PySem.Value.isInt_shape hk'
    exact ⟨tk, by rw [← hr.1]⟩
theorem bools_of {X : XS} {h : Heap} : ∀ {vs : List Value} {bs : List Bool}, All2 (fun v b => tBool.rel X h v b) vs bs → LSm.BoolsAre vs bs
  | _, _, .nil => .nil
  | _, _, .cons h r => by obtain rfl := h; exact .cons _ (bools_of r)
theorem cb_all {s : Shared} {vs : List Value} {E : Value → Shared → Prop} {bs : List Bool} (hh : g.A.handled = none) (h : All2 (fun v (b : Bd) => b.rel Y2 s.heap v) vs [(tList tBool).at bs]) :
    wpAny (model prog w) g.A (call (.builtin "all") vs) (fun v s' => Keeps s s' ∧ (tBool.at (bs.all id)).rel Y s'.heap v) E s := by
  obtain _ | ⟨⟨a, us, rfl, n, l, r⟩, _ | _⟩ := h
  have hb := bools_of r
  have hlt : a < s.heap.objs.size := by obtain ⟨_, e, _⟩ := l; exact Heap.lt_size e
  refine call_all_walk (wpAny_pyIter_list l ?_)
  refine ⟨s.heap.objs.size, [s.heap.objs.size, a], [s.heap.objs.size], us.toArray.size, _, _, fun i => (bs[i]?).getD true, rfl, Walks.list (A := g.A.in1) hh _ a (Nat.ne_of_lt hlt) us.toArray,
    ⟨⟨_, Heap.get?_push_size _ rfl, rfl, rfl⟩, l.push _⟩, fun i v s' Q' E' hP hQ => ?_, fun h' tk hk => ⟨⟨h', tk, rfl, fun b o e => ?_⟩, ?_⟩⟩
  · obtain ⟨b, e, rfl⟩ := hb.get i v (by simpa using hP)
    simp only [e, Option.getD_some] at hQ
    exact wpAny_truthy_bool hQ
  · exact hk b o (fun q => by rw [List.mem_singleton.mp q] at e; exact Nat.lt_irrefl _ (Heap.lt_size e)) (Heap.get?_push_of_some _ e)
  · show Value.bool _ = Value.bool _
    rw [List.size_toArray, hb.length, LSm.range_all]
/-- a plain list -/
def tPl {α : Type} (t : Ty α) : Ty (List α) := ⟨fun X h v xs => ∃ a vs, v = .ref a ∧ ¬ X a ∧ h.PlainList a vs.toArray ∧ All2 (fun v x => t.rel X h v x) vs xs, by
  rintro X X' h h' v xs ⟨a, vs, rfl, n, ⟨c, l⟩, r⟩ k
  exact ⟨a, vs, rfl, (k a _ n l).1, ⟨c, (k a _ n l).2⟩, r.imp fun _ _ q => t.mono q k⟩⟩
theorem ev_slicePl {value : Expr} {xs : List α} {lower upper : Option Expr} {lo hi : Option Int} (hl : Ev prog w H0 g g.X value ((tList t).at xs)) (h1 : EvP prog w H0 g lower lo) (h2 : EvP prog w H0 g upper hi)
    (hz : xs.length ≤ 16777216) (ht : ∀ o r, letTemporaryGo value o r = pure ()) : Ev prog w H0 g g.X (.Subscript value (.Slice lower upper none p) pos) ((tPl t).at (pickL xs lo hi none)) := by
  intro s c E
  refine wpAny_Subscript_list_slice (hl.use c fun v1 s1 k1 c1 r1 => wpAny_mono (h1 s1 c1 E) (fun vl s2 q2 => wpAny_mono (h2 s2 (c1.keep q2.1) E) (fun vu s3 q3 => ?_) fun _ _ e => e) fun _ _ e => e) ht
  have k13 := q2.1.trans q3.1
  obtain ⟨a, vs, rfl, n, l, r⟩ := ((tList t).at xs).keep r1 k13
  refine ⟨a, vs.toArray, lo, hi, rfl, l, by rw [sizeLine_eq]; have := r.length; simp; omega, q2.2, q3.2, ?_⟩
  have c3 := c1.keep k13
  have kp := Keeps.push s3 { cls := .type "slice", data := .fields #[vl, vu, .none] }
  have c4 := c3.keep kp
  have kp2 := Keeps.push { s3 with heap := s3.heap.push { cls := .type "slice", data := .fields #[vl, vu, .none] } } { cls := .type "list", data := .seq (slicePick vs.toArray lo hi none) }
  refine ⟨((k1.trans k13).trans kp).trans kp2, s3.heap.objs.size + 1, (slicePick vs.toArray lo hi none).toList, rfl, ?_, ⟨0, ?_⟩, ?_⟩
  · have := c4.live.fresh
    simpa [Heap.size_push] using this
  · have := Heap.get?_push_size (h := s3.heap.push { cls := .type "slice", data := .fields #[vl, vu, .none] }) (o := { cls := .type "list", data := .seq (slicePick vs.toArray lo hi none) }) rfl
    simpa [Heap.size_push] using this
  · exact (slicePick_all2 r lo hi none).imp fun v x q => (t.at x).keep ((t.at x).keep q kp) kp2
end
end Mine
end

section
open PySem PySem.W PyProof.Rows
namespace Mine
set_option linter.unusedVariables false
section
variable {prog : Program} {w : World} {H0 : Heap} {Z X0 X : XS} {s₀ s : Shared} {A : Around} {env : Env} {ρ : List (Str × Bd)} {Ω : Hp} {m : Nat} {pos p : Pos} {e : Expr} {b r : Bd} {E : Value → Shared → Prop} {Q : Flow → Shared → Prop} {rest : List Stmt} {α β : Type} {t : Ty α} {u : Ty β} {g : Γ} {Y Y1 Y2 : XS}
/-- the context's word changed, at this state -/
theorem Sx.omAt {Ω' : Hp} (x : Sx H0 Z s₀ ⟨A, X, env, ρ, Ω, m⟩ s) (h : Ω'.p s.heap) : Sx H0 Z s₀ ⟨A, X, env, ρ, Ω', m⟩ s :=
  ⟨⟨x.cx.fr, x.cx.wd, x.cx.live, h, x.cx.ok⟩, x.k0, x.wl, x.wc⟩
def hDict (prog : Program) (w : World) (D : Addr) (kvs : List (Int × Value)) : Hp := ⟨fun h => h.DictOf (intKind prog w) D kvs, fun x k => dictOf_at x fun o e => k _ o e⟩
def hPl (L : Addr) (vs : List Value) : Hp := ⟨fun h => h.PlainList L vs.toArray, fun x k => let ⟨n, e⟩ := x; ⟨n, k _ _ e⟩⟩
theorem assign_two {x y : Str} {px py tp : Pos} {kk : Nat} {tu : Addr} {v1 v2 : Value} {b1 b2 : Bd} {Q : Unit → Shared → Prop} (sx : Sx H0 Z s₀ ⟨A, X, env, ρ, Ω, m⟩ s) (ht : IsTup s.heap tu [v1, v2].toArray) (r1 : b1.rel X s.heap v1) (r2 : b2.rel X s.heap v2) (hΩ : Ω.StOff (Fa env))
    (hkx : env.kindOf x = some .local ∨ (env.kindOf x = some .cell ∧ (env.cells.lookup x).isSome = true)) (hky : env.kindOf y = some .local ∨ (env.kindOf y = some .cell ∧ (env.cells.lookup y).isSome = true))
    (k : ∀ s', Sx H0 Z s₀ ⟨A, X, env, (y, b2) :: (x, b1) :: ρ, Ω, m⟩ s' → Q () s') : wpAny (model prog w) A (assign (.Tuple [.Name x px, .Name y py] kk tp) env (.ref tu)) Q E s := by
  rw [assign_Tuple]
  refine wpAny_bind (wpAny_standAt ?_)
  unfold unpack
  refine wpAny_bind (wpAny_holding ?_)
  show wpAny _ _ (unpackItems (.ref tu) 2 none) _ _ _
  refine unpackItems_tuple (items := [v1, v2].toArray) sx.cx.ok.hh ht fun h' ex => ?_
  have kp : Keeps s { s with heap := h' } := ⟨h', s.toks, rfl, fun b o e => ex b o (Nat.ne_of_lt (Heap.lt_size e)) e⟩
  have sx2 := sx.keep kp
  show wpAny _ _ (assignInOrder [assign (.Name x px) env, assign (.Name y py) env] [v1, v2]) _ _ _
  refine assignInOrder_cons (assign_Name ?_)
  refine store sx2 (b := b1) (b1.keep r1 kp) hΩ hkx fun s3 sx3 ko => ?_
  refine assignInOrder_cons (assign_Name ?_)
  refine store sx3 (b := b2) ?_ hΩ hky fun s4 sx4 _ => assignInOrder_nil (k s4 sx4)
  exact b2.mono (b2.keep r2 kp) fun b o nb e => ⟨nb, ko.get (fun fa => nb (sx2.cx.fr.fa_x fa)) e⟩
/-- first, ahead = ({}, {}) -/
theorem st_dicts2 {x y : Str} {px py tp vp d1 d2 : Pos} {k1 k2 : Nat} {K : Frag} (W : W0 K H0) (sx : Sx H0 Z s₀ ⟨A, X, env, ρ, Ω, m⟩ s)
    (hkx : env.kindOf x = some .local ∨ (env.kindOf x = some .cell ∧ (env.cells.lookup x).isSome = true)) (hky : env.kindOf y = some .local ∨ (env.kindOf y = some .cell ∧ (env.cells.lookup y).isSome = true))
    (hs : swapsWithSole [.Tuple [.Name x px, .Name y py] k1 tp] (.Tuple [.Dict [] [] d1, .Dict [] [] d2] k2 vp) pos.line env = pure false) (hw : swappedStores [.Tuple [.Name x px, .Name y py] k1 tp] (.Tuple [.Dict [] [] d1, .Dict [] [] d2] k2 vp) env = pure none)
    (he1 : starEach [.Dict [] [] d1, .Dict [] [] d2] env = (false, eval (.Dict [] [] d1) env) :: starEach [.Dict [] [] d2] env) (he2 : starEach [.Dict [] [] d2] env = (false, eval (.Dict [] [] d2) env) :: starEach [] env)
    (k : ∀ D1 D2 s', s.heap.get? D1 = none → s.heap.get? D2 = none → D1 ≠ D2 → D1 ≠ sysModules → D2 ≠ sysModules → ¬ Fa env D1 → ¬ Fa env D2 → (Z D1 ∨ s₀.heap.get? D1 = none) → (Z D2 ∨ s₀.heap.get? D2 = none) →
      Sx H0 Z s₀ ⟨A, xI (xI X D1) D2, env, (y, bVal (.ref D2)) :: (x, bVal (.ref D1)) :: ρ, hAnd (hDict prog w D1 []) (hDict prog w D2 []), m⟩ s' → wpAny (model prog w) A (execs rest env) Q E s') :
    wpAny (model prog w) A (execs (.Assign [.Tuple [.Name x px, .Name y py] k1 tp] (.Tuple [.Dict [] [] d1, .Dict [] [] d2] k2 vp) pos :: rest) env) Q E s := by
  refine wpAny_execs_cons (Assign_Tuple (wpAny_Tuple ?_) hs hw)
  rw [he1]
  refine Calls.spliced_cons (wpAny_Dict_empty ?_)
  rw [he2]
  refine Calls.spliced_cons (wpAny_Dict_empty (Calls.spliced_nil ⟨by rw [sizeLine_eq]; show (2 : Nat) ≤ _; omega, ?_⟩))
  have hsz : sysModules < s.heap.objs.size := modules_low (W.lim.keeps sx.cx.wd.keep)
  let dd : Obj := { cls := .type "dict", data := .dict #[] }
  have f1 : s.heap.get? s.heap.objs.size = none := get_none_of_size (Nat.le_refl _)
  have kp1 := Keeps.push s dd
  obtain ⟨sx1, nF1, hZ1⟩ := sx.own (Ω' := hDict prog w s.heap.objs.size []) f1 kp1 ⟨_, Heap.get?_push_size s.heap (o := dd) rfl⟩ (Heap.DictOf.new s.heap)
  have hD2 : (s.heap.push dd).objs.size = s.heap.objs.size + 1 := Heap.size_push ..
  have f2 : (s.heap.push dd).get? (s.heap.push dd).objs.size = none := get_none_of_size (Nat.le_refl _)
  have f2' : s.heap.get? (s.heap.push dd).objs.size = none := get_none_of_size (by rw [hD2]; omega)
  have kp2 := Keeps.push { s with heap := s.heap.push dd } dd
  obtain ⟨sx2, nF2, hZ2⟩ := sx1.own (Ω' := hAnd (hDict prog w s.heap.objs.size []) (hDict prog w (s.heap.push dd).objs.size [])) f2 kp2 ⟨_, Heap.get?_push_size (s.heap.push dd) (o := dd) rfl⟩ ⟨(hDict prog w _ []).mono sx1.cx.om kp2.keep, Heap.DictOf.new (s.heap.push dd)⟩
  let tt : Obj := { cls := .type "tuple", data := .seq [Value.ref s.heap.objs.size, Value.ref (s.heap.push dd).objs.size].toArray }
  have kp3 := Keeps.push { s with heap := (s.heap.push dd).push dd } tt
  have sx3 := sx2.keep kp3
  have htup : IsTup (((s.heap.push dd).push dd).push tt) ((s.heap.push dd).push dd).objs.size [Value.ref s.heap.objs.size, Value.ref (s.heap.push dd).objs.size].toArray := ⟨tt, Heap.get?_push_size ((s.heap.push dd).push dd) (o := tt) rfl, rfl, _, rfl⟩
  have offD : ∀ {D : Addr}, ¬ Fa env D → (hDict prog w D []).StOff (Fa env) := fun nF h h' k d => dictOf_at d fun o e => k _ o nF e
  refine assign_two sx3 (b1 := bVal (.ref s.heap.objs.size)) (b2 := bVal (.ref (s.heap.push dd).objs.size)) htup rfl rfl (hAnd_off (offD nF1) (offD nF2)) hkx hky fun s4 sx4 => ?_
  exact k _ _ s4 f1 f2' (by rw [hD2]; exact Nat.ne_of_lt (Nat.lt_succ_self _)) (Nat.ne_of_gt hsz) (by rw [hD2]; exact Nat.ne_of_gt (Nat.lt_succ_of_lt hsz)) nF1 nF2 hZ1 hZ2 sx4
/-- an own dict read -/
theorem ev_ownD {D : Addr} {n : Str} {xs : List (Int × α)} {np : Pos} (hv : g.ρ.lookup n = some (bVal (.ref D))) (hn : (n == ("__classdict__" : Str)) = false) (hd : (n == ("__debug__" : Str)) = false) (ho : ∀ h, g.Ω.p h → ((tDict prog w t).at xs).rel nX h (.ref D)) :
    Ev prog w H0 g nX (.Name n np) ((tDict prog w t).at xs) := by
  intro s c E
  refine (ev_var hv hn hd).use c fun v s1 k1 c1 r1 => ⟨k1, ?_⟩
  obtain rfl : v = .ref D := r1
  exact ho _ c1.om
theorem ev_itemOwn {D : Addr} {n : Str} {slice : Expr} {k : Int} {np : Pos} (hv : g.ρ.lookup n = some (bVal (.ref D))) (hn : (n == ("__classdict__" : Str)) = false) (hd : (n == ("__debug__" : Str)) = false) (hi : Ev prog w H0 g Y2 slice (tInt.at k))
    (ho : ∀ h, g.Ω.p h → ∃ kvs v, h.DictOf (intKind prog w) D kvs ∧ valueAt kvs k = some v ∧ b.rel Y h v)
    (hs : ∀ o i, subscripted slice false o i = operate [o, i] (getItem o i)) (ht : ∀ o r, letTemporaryGo (.Name n np) o r = pure ()) : Ev prog w H0 g Y (.Subscript (.Name n np) slice pos) b := by
  intro s c E
  refine Subscript_ ((ev_var hv hn hd).use c fun v1 s1 k1 c1 r1 => hi.use c1 fun v2 s2 k2 c2 r2 => ?_)
  obtain rfl : v1 = .ref D := r1
  obtain ⟨tk, rfl⟩ := r2
  obtain ⟨kvs, v, d, hv, hr⟩ := ho _ c2.om
  exact subscriptTail_builtin d.typeIs slot_dict_getitem.lookup (wpAny_getItem_of (intKind_is prog w k tk) d.mapOf hv ⟨(k1.trans k2).trans (Keeps.tok _ _), hr⟩) (hs _ _) (ht _)
/-- D[k] = e -/
theorem st_dictSet {D : Addr} {n : Str} {slice : Expr} {k : Int} {np sp : Pos} {Ω' : Hp} (sx : Sx H0 Z s₀ ⟨A, X, env, ρ, Ω, m⟩ s) (he : Ev prog w H0 ⟨A, X, env, ρ, Ω, m⟩ X e b)
    (hv : ρ.lookup n = some (bVal (.ref D))) (hn : (n == ("__classdict__" : Str)) = false) (hd : (n == ("__debug__" : Str)) = false) (hi : Ev prog w H0 ⟨A, X, env, ρ, Ω, m⟩ Y2 slice (tInt.at k)) (hX : X D) (hF : ¬ Fa env D) (hZ : Z D ∨ s₀.heap.get? D = none)
    (hT : ∀ h v, Ω.p h → b.rel X h v → ∃ kvs, h.DictOf (intKind prog w) D kvs ∧ kvs.length ≤ 16777216 ∧ ∀ h', h'.DictOf (intKind prog w) D (stored kvs k v) → Heap.SameBut D h h' → Ω'.p h')
    (hs : swapsWith e (some (.Subscript (.Name n np) slice sp)) pos.line env = pure false)
    (hk : ∀ s', Sx H0 Z s₀ ⟨A, X, env, ρ, Ω', m⟩ s' → wpAny (model prog w) A (execs rest env) Q E s') :
    wpAny (model prog w) A (execs (.Assign [.Subscript (.Name n np) slice sp] e pos :: rest) env) Q E s := by
  refine wpAny_execs_cons (wpAny_Assign_Subscript (he.use sx.cx fun v s1 k1 c1 r1 => (ev_var (g := ⟨A, X, env, ρ, Ω, m⟩) hv hn hd).use c1 fun v2 s2 k2 c2 r2 => hi.use c2 fun v3 s3 k3 c3 r3 => ?_) hs)
  obtain rfl : v2 = .ref D := r2
  obtain ⟨tk, rfl⟩ := r3
  have sx3 := ((sx.keep k1).keep k2).keep k3
  obtain ⟨kvs, d, hz, hT⟩ := hT _ v c3.om (b.keep (b.keep r1 k2) k3)
  refine wpAny_setItem_pairs (hsz := by rw [sizeLine_eq]; exact hz) (intKind_is prog w k tk) d fun h' d' sb => hk _ ?_
  obtain ⟨o, _, _, ho, _⟩ := id d'
  exact sx3.turn hX hF hZ (fun b o nb e => (sb.2 b nb).trans e) ⟨o, ho⟩ (hT h' d' sb)
/-- D[k] = [] -/
theorem st_dictSetNil {D : Addr} {n : Str} {slice : Expr} {k : Int} {np sp lp : Pos} {Ω' : Addr → Hp} (sx : Sx H0 Z s₀ ⟨A, X, env, ρ, Ω, m⟩ s)
    (hv : ρ.lookup n = some (bVal (.ref D))) (hn : (n == ("__classdict__" : Str)) = false) (hd : (n == ("__debug__" : Str)) = false) (hi : ∀ X Ω, Ev prog w H0 ⟨A, X, env, ρ, Ω, m⟩ Y2 slice (tInt.at k)) (hX : X D) (hF : ¬ Fa env D) (hZ : Z D ∨ s₀.heap.get? D = none)
    (hT : ∀ L h, ¬ X L → s.heap.get? L = none → ¬ Fa env L → Ω.p h → h.PlainList L #[] → ∃ kvs, h.DictOf (intKind prog w) D kvs ∧ kvs.length ≤ 16777216 ∧ ∀ h', h'.DictOf (intKind prog w) D (stored kvs k (.ref L)) → Heap.SameBut D h h' → (Ω' L).p h')
    (hs : swapsWith (.List [] lp) (some (.Subscript (.Name n np) slice sp)) pos.line env = pure false)
    (hk : ∀ L s', s.heap.get? L = none → ¬ Fa env L → (Z L ∨ s₀.heap.get? L = none) → Sx H0 Z s₀ ⟨A, xI X L, env, ρ, Ω' L, m⟩ s' → wpAny (model prog w) A (execs rest env) Q E s') :
    wpAny (model prog w) A (execs (.Assign [.Subscript (.Name n np) slice sp] (.List [] lp) pos :: rest) env) Q E s := by
  refine wpAny_execs_cons (wpAny_Assign_Subscript (List_ (Calls.spliced_nil (wpAny_newObj_type ?_))) hs)
  have fL : s.heap.get? s.heap.objs.size = none := get_none_of_size (Nat.le_refl _)
  have nX : ¬ X s.heap.objs.size := sx.cx.live.fresh
  have kp := Keeps.push s { cls := .type "list", dict := none, data := .seq ([] : List Value).toArray }
  have gL : (s.heap.push { cls := .type "list", dict := none, data := .seq ([] : List Value).toArray }).get? s.heap.objs.size = some { cls := .type "list", dict := none, data := .seq ([] : List Value).toArray } := Heap.get?_push_size _ rfl
  obtain ⟨sx1, nF, hZL⟩ := sx.own (Ω' := hAnd Ω (hPl s.heap.objs.size [])) fL kp ⟨_, gL⟩ ⟨Ω.mono sx.cx.om kp.keep, 0, gL⟩
  refine (ev_var (g := ⟨A, xI X s.heap.objs.size, env, ρ, hAnd Ω (hPl s.heap.objs.size []), m⟩) hv hn hd).use sx1.cx fun v2 s2 k2 c2 r2 => (hi _ _).use c2 fun v3 s3 k3 c3 r3 => ?_
  obtain rfl : v2 = .ref D := r2
  obtain ⟨tk, rfl⟩ := r3
  have sx3 := (sx1.keep k2).keep k3
  obtain ⟨kvs, d, hz, hT⟩ := hT _ _ nX fL nF c3.om.1 c3.om.2
  refine wpAny_setItem_pairs (hsz := by rw [sizeLine_eq]; exact hz) (intKind_is prog w k tk) d fun h' d' sb => hk s.heap.objs.size _ fL nF hZL ?_
  obtain ⟨o, _, _, ho, _⟩ := id d'
  exact sx3.turn (.inl hX) hF hZ (fun b o nb e => (sb.2 b nb).trans e) ⟨o, ho⟩ (hT h' d' sb)
/-- L.extend(e) -/
theorem st_extend {L : Addr} {o : Expr} {ys : List α} {apos cpos : Pos} {Ω' : Hp} (sx : Sx H0 Z s₀ ⟨A, X, env, ρ, Ω, m⟩ s) (ho : Ev prog w H0 ⟨A, X, env, ρ, Ω, m⟩ Y o (bVal (.ref L))) (he : Ev prog w H0 ⟨A, X, env, ρ, Ω, m⟩ X e ((tPl t).at ys)) (hX : X L) (hF : ¬ Fa env L) (hZ : Z L ∨ s₀.heap.get? L = none)
    (hys : ys.length ≤ 1000000) (hT : ∀ h, Ω.p h → ∃ vs, h.PlainList L vs.toArray ∧ vs.length ≤ 1000000 ∧ ∀ us h', All2 (fun v x => t.rel X h v x) us ys → h'.PlainList L (vs ++ us).toArray → Heap.SameBut L h h' → Ω'.p h')
    (hst : ∀ env, starEach [e] env = (false, eval e env) :: starEach [] env) (hbase : attributeBase o "extend" env (eval o env) = eval o env) (hline : (apos.endLine == cpos.line) = true) (hp : ∀ env, (backTo cpos (starEach [e] env)).any (·.1) = false)
    (hfew : ∀ env, ((backTo cpos (starEach [e] env)).all (fun x => !x.1) && (backToKw cpos (keywordEach [] env)).all (fun x => x.1.isSome)
      && decide ([e].length + ([] : List Keyword).length + (if ([] : List Keyword).isEmpty then 0 else 1) < 30)) = true)
    (hi : interactive env = false) (hsw : swapsWith (.Call (.Attribute o "extend" apos) [e] [] cpos) none pos.line env = pure false)
    (hk : ∀ s', Sx H0 Z s₀ ⟨A, X, env, ρ, Ω', m⟩ s' → wpAny (model prog w) A (execs rest env) Q E s') :
    wpAny (model prog w) A (execs (.Expr (.Call (.Attribute o "extend" apos) [e] [] cpos) pos :: rest) env) Q E s := by
  refine wpAny_execs_cons (wpAny_Expr (wpAny_Call_method hbase (hfew _) hline PySem.F.plainAttrs_list PySem.F.slot_list_extend PySem.F.type_list_extend (ho.use sx.cx fun v s1 k1 c1 r1 => ?_)) hi hsw)
  obtain rfl : v = .ref L := r1
  obtain ⟨vs1, ⟨n1, l1⟩, _, _⟩ := hT s1.heap c1.om
  refine ⟨⟨_, l1, rfl⟩, fun a q => ⟨_, (by cases q; exact l1), rfl⟩, ?_⟩
  refine Calls.callWith_builtin (hp _) (evalArgs_of (g := ⟨A, X, env, ρ, Ω, m⟩) hst ?_)
  refine wpAny_mono (evs_cons he evs_nil hst s1 c1 _) (fun us s2 q => ?_) fun _ _ e => e
  obtain ⟨k2, _ | ⟨⟨a, us, rfl, na, ⟨n2, l2⟩, r2⟩, _ | _⟩⟩ := q
  have sx2 := (sx.keep k1).keep k2
  obtain ⟨vs, ⟨n3, l3⟩, hz, hT⟩ := hT s2.heap sx2.cx.om
  have hus := r2.length
  have hdoor : ¬(!vs.toArray.isEmpty && Builtin.List.listTooLong (vs.toArray.size + us.toArray.size)) = true := extend_door (by rw [sizeLine_eq]; simp; omega)
  refine call_meets PySem.F.slot_list_extend ⟨_, l3, rfl⟩ PySem.F.entry_list_extend (PySem.F.args_list_extend_2 _ _) (PySem.AutoSeq1.list_extend_list_list_0 L vs.toArray n3 a us.toArray n2 hdoor (by rw [sizeLine_eq]; simp; omega) (by rw [sizeLine_eq]; simp; omega)) ⟨l3, l2, ?_⟩
  have sb := Heap.SameBut.update s2.heap L (Obj.mapSeq fun x => x ++ us.toArray)
  have l4 := Heap.get?_update_self (Obj.mapSeq fun x => x ++ us.toArray) l3 rfl
  refine hk _ (sx2.turn (tk := s2.toks) hX hF hZ (fun b o nb e => (sb.2 b nb).trans e) ⟨_, l4⟩ (hT us _ r2 ?_ sb))
  have e : vs.toArray ++ us.toArray = (vs ++ us).toArray := by simp
  rw [← e]
  exact ⟨_, l4⟩
end
end Mine
end

section
namespace Mine
set_option linter.unusedVariables false
structure TD where
  ks : List Int
  f : Int → Nat
  ah : Int → List Int
def Pr (n j a i : Nat) : Prop := a < n ∨ (a = n ∧ i < j)
structure TInv (lines : List (List Int)) (n j : Nat) (d : TD) : Prop where
  nd : d.ks.Nodup
  mem : ∀ p, p ∈ d.ks ↔ ∃ a i l, Pr n j a i ∧ lines[a]? = some l ∧ l[i]? = some p
  fst : ∀ p ∈ d.ks, (∃ i l, Pr n j (d.f p) i ∧ lines[d.f p]? = some l ∧ l[i]? = some p) ∧ ∀ a i l, Pr n j a i → lines[a]? = some l → l[i]? = some p → d.f p ≤ a
  ahd : ∀ p ∈ d.ks, ∀ q, q ∈ d.ah p ↔ ∃ a i l, Pr n j a i ∧ lines[a]? = some l ∧ l[i]? = some p ∧ q ∈ l.take i
  sz : ∀ p ∈ d.ks, (d.ah p).length ≤ n * 10000 + j * 100
  szk : d.ks.length ≤ n * 100 + j
def TD0 : TD := ⟨[], fun _ => 0, fun _ => []⟩
theorem TInv.start (lines : List (List Int)) : TInv lines 0 0 TD0 := by
  refine ⟨List.nodup_nil, fun p => ⟨fun h => by simp [TD0] at h, ?_⟩, fun p h => by simp [TD0] at h, fun p h => by simp [TD0] at h, fun p h => by simp [TD0] at h, by simp [TD0]⟩
  rintro ⟨a, i, l, h | h, _⟩
  · exact absurd h (Nat.not_lt_zero _)
  · exact absurd h.2 (Nat.not_lt_zero _)
def tOld (d : TD) (l : List Int) (j : Nat) (p : Int) : TD := { d with ah := fun k => if k = p then d.ah p ++ l.take j else d.ah k }
def tNew (d : TD) (n : Nat) (p : Int) : TD := { ks := d.ks ++ [p], f := fun k => if k = p then n else d.f k, ah := fun k => if k = p then [] else d.ah k }
theorem pr_step {n j a i : Nat} : Pr n (j + 1) a i ↔ Pr n j a i ∨ (a = n ∧ i = j) := by
  unfold Pr; constructor
  · rintro (h | ⟨h, h2⟩)
    · exact .inl (.inl h)
    · by_cases q : i = j
      · exact .inr ⟨h, q⟩
      · exact .inl (.inr ⟨h, by omega⟩)
  · rintro ((h | ⟨h, h2⟩) | ⟨h, h2⟩)
    · exact .inl h
    · exact .inr ⟨h, by omega⟩
    · exact .inr ⟨h, by omega⟩
variable {lines : List (List Int)} {n j : Nat} {d : TD} {l : List Int} {p : Int}
theorem TInv.old (x : TInv lines n j d) (hl : lines[n]? = some l) (hp : l[j]? = some p) (hz : l.length ≤ 100) (hm : p ∈ d.ks) : TInv lines n (j + 1) (tOld d l j p) := by
  refine ⟨x.nd, fun q => (x.mem q).trans ⟨?_, ?_⟩, fun q hq => ?_, fun q hq z => ?_, fun q hq => ?_, by have := x.szk; show d.ks.length ≤ _; omega⟩
  · rintro ⟨a, i, l', h1, h2, h3⟩
    exact ⟨a, i, l', pr_step.mpr (.inl h1), h2, h3⟩
  · rintro ⟨a, i, l', h1, h2, h3⟩
    rcases pr_step.mp h1 with h1 | ⟨rfl, rfl⟩
    · exact ⟨a, i, l', h1, h2, h3⟩
    · rw [hl] at h2; cases h2
      rw [hp] at h3; cases h3
      exact (x.mem p).mp hm
  · obtain ⟨⟨i, l', h1, h2, h3⟩, h4⟩ := x.fst q hq
    refine ⟨⟨i, l', pr_step.mpr (.inl h1), h2, h3⟩, fun a i l' g1 g2 g3 => ?_⟩
    rcases pr_step.mp g1 with g1 | ⟨rfl, rfl⟩
    · exact h4 a i l' g1 g2 g3
    · obtain ⟨⟨i0, l0, h1, h2, h3⟩, _⟩ := x.fst q hq
      show d.f q ≤ a
      rcases h1 with h1 | h1
      · exact Nat.le_of_lt h1
      · exact Nat.le_of_eq h1.1
  · show z ∈ (if q = p then d.ah p ++ l.take j else d.ah q) ↔ _
    by_cases e : q = p
    · subst e
      rw [if_pos rfl, List.mem_append, x.ahd q hq z]
      constructor
      · rintro (⟨a, i, l', h1, h2, h3, h4⟩ | h)
        · exact ⟨a, i, l', pr_step.mpr (.inl h1), h2, h3, h4⟩
        · exact ⟨n, j, l, pr_step.mpr (.inr ⟨rfl, rfl⟩), hl, hp, h⟩
      · rintro ⟨a, i, l', h1, h2, h3, h4⟩
        rcases pr_step.mp h1 with h1 | ⟨rfl, rfl⟩
        · exact .inl ⟨a, i, l', h1, h2, h3, h4⟩
        · rw [hl] at h2; cases h2; exact .inr h4
    · rw [if_neg e, x.ahd q hq z]
      constructor
      · rintro ⟨a, i, l', h1, h2, h3, h4⟩
        exact ⟨a, i, l', pr_step.mpr (.inl h1), h2, h3, h4⟩
      · rintro ⟨a, i, l', h1, h2, h3, h4⟩
        rcases pr_step.mp h1 with h1 | ⟨rfl, rfl⟩
        · exact ⟨a, i, l', h1, h2, h3, h4⟩
        · rw [hl] at h2; cases h2
          rw [hp] at h3; cases h3; exact absurd rfl e
  · show (if q = p then d.ah p ++ l.take j else d.ah q).length ≤ _
    have hj := (List.getElem?_eq_some_iff.mp hp).1
    split
    · rename_i e; subst e
      have := x.sz q hq
      simp only [List.length_append, List.length_take]
      omega
    · have := x.sz q hq; omega
theorem TInv.new (x : TInv lines n j d) (hl : lines[n]? = some l) (hp : l[j]? = some p) (hz : l.length ≤ 100) (hm : p ∉ d.ks) : TInv lines n (j + 1) (tOld (tNew d n p) l j p) := by
  have hno : ∀ a i l', Pr n j a i → lines[a]? = some l' → l'[i]? = some p → False := fun a i l' h1 h2 h3 => hm ((x.mem p).mpr ⟨a, i, l', h1, h2, h3⟩)
  have hne : ∀ q ∈ d.ks, q ≠ p := fun q hq e => hm (e ▸ hq)
  have hj := (List.getElem?_eq_some_iff.mp hp).1
  refine ⟨?_, fun q => ?_, fun q hq => ?_, fun q hq z => ?_, fun q hq => ?_, ?_⟩
  · show (d.ks ++ [p]).Nodup
    rw [List.nodup_append]
    refine ⟨x.nd, by simp, fun a ha b hb e => ?_⟩
    simp at hb; subst hb; subst e; exact hm ha
  · show q ∈ d.ks ++ [p] ↔ _
    rw [List.mem_append, x.mem q, List.mem_singleton]
    constructor
    · rintro (⟨a, i, l', h1, h2, h3⟩ | rfl)
      · exact ⟨a, i, l', pr_step.mpr (.inl h1), h2, h3⟩
      · exact ⟨n, j, l, pr_step.mpr (.inr ⟨rfl, rfl⟩), hl, hp⟩
    · rintro ⟨a, i, l', h1, h2, h3⟩
      rcases pr_step.mp h1 with h1 | ⟨rfl, rfl⟩
      · exact .inl ⟨a, i, l', h1, h2, h3⟩
      · rw [hl] at h2; cases h2
        rw [hp] at h3; cases h3; exact .inr rfl
  · rcases List.mem_append.mp (show q ∈ d.ks ++ [p] from hq) with hq | hq
    · have e := hne q hq
      show (∃ i l', Pr n (j + 1) (if q = p then n else d.f q) i ∧ lines[if q = p then n else d.f q]? = some l' ∧ l'[i]? = some q) ∧ ∀ a i l', Pr n (j + 1) a i → lines[a]? = some l' → l'[i]? = some q → (if q = p then n else d.f q) ≤ a
      rw [if_neg e]
      obtain ⟨⟨i, l', h1, h2, h3⟩, h4⟩ := x.fst q hq
      refine ⟨⟨i, l', pr_step.mpr (.inl h1), h2, h3⟩, fun a i l' g1 g2 g3 => ?_⟩
      rcases pr_step.mp g1 with g1 | ⟨rfl, rfl⟩
      · exact h4 a i l' g1 g2 g3
      · rw [hl] at g2; cases g2
        rw [hp] at g3; cases g3; exact absurd rfl e
    · simp at hq; subst hq
      show (∃ i l', Pr n (j + 1) (if q = q then n else d.f q) i ∧ lines[if q = q then n else d.f q]? = some l' ∧ l'[i]? = some q) ∧ ∀ a i l', Pr n (j + 1) a i → lines[a]? = some l' → l'[i]? = some q → (if q = q then n else d.f q) ≤ a
      rw [if_pos rfl]
      refine ⟨⟨j, l, pr_step.mpr (.inr ⟨rfl, rfl⟩), hl, hp⟩, fun a i l' g1 g2 g3 => ?_⟩
      rcases pr_step.mp g1 with g1 | ⟨rfl, rfl⟩
      · exact (hno a i l' g1 g2 g3).elim
      · exact Nat.le_refl _
  · show z ∈ (if q = p then (if p = p then [] else d.ah p) ++ l.take j else if q = p then [] else d.ah q) ↔ _
    by_cases e : q = p
    · subst e
      rw [if_pos rfl, if_pos rfl, List.nil_append]
      constructor
      · intro h; exact ⟨n, j, l, pr_step.mpr (.inr ⟨rfl, rfl⟩), hl, hp, h⟩
      · rintro ⟨a, i, l', h1, h2, h3, h4⟩
        rcases pr_step.mp h1 with h1 | ⟨rfl, rfl⟩
        · exact (hno a i l' h1 h2 h3).elim
        · rw [hl] at h2; cases h2; exact h4
    · have hq' : q ∈ d.ks := by
        rcases List.mem_append.mp (show q ∈ d.ks ++ [p] from hq) with h | h
        · exact h
        · simp at h; exact absurd h e
      rw [if_neg e, if_neg e, x.ahd q hq' z]
      constructor
      · rintro ⟨a, i, l', h1, h2, h3, h4⟩
        exact ⟨a, i, l', pr_step.mpr (.inl h1), h2, h3, h4⟩
      · rintro ⟨a, i, l', h1, h2, h3, h4⟩
        rcases pr_step.mp h1 with h1 | ⟨rfl, rfl⟩
        · exact ⟨a, i, l', h1, h2, h3, h4⟩
        · rw [hl] at h2; cases h2
          rw [hp] at h3; cases h3; exact absurd rfl e
  · show (if q = p then (if p = p then [] else d.ah p) ++ l.take j else if q = p then [] else d.ah q).length ≤ _
    by_cases e : q = p
    · rw [if_pos e, if_pos rfl]; simp only [List.nil_append, List.length_take]; omega
    · have hq' : q ∈ d.ks := by
        rcases List.mem_append.mp (show q ∈ d.ks ++ [p] from hq) with h | h
        · exact h
        · simp at h; exact absurd h e
      rw [if_neg e, if_neg e]
      have := x.sz q hq'; omega
  · show (d.ks ++ [p]).length ≤ _
    have := x.szk
    simp; omega
theorem TInv.line (x : TInv lines n l.length d) (hl : lines[n]? = some l) (hz : l.length ≤ 100) : TInv lines (n + 1) 0 d := by
  have hs1 : n * 10000 + l.length * 100 ≤ (n + 1) * 10000 + 0 * 100 := by rw [Nat.add_mul]; omega
  have hs2 : n * 100 + l.length ≤ (n + 1) * 100 + 0 := by omega
  have e : ∀ {a i : Nat} {l' : List Int} {q : Int}, lines[a]? = some l' → l'[i]? = some q → (Pr n l.length a i ↔ Pr (n + 1) 0 a i) := by
    intro a i l' q h1 h2
    have hi := (List.getElem?_eq_some_iff.mp h2).1
    unfold Pr
    constructor
    · rintro (h | ⟨h, _⟩) <;> exact .inl (by omega)
    · rintro (h | ⟨_, h⟩)
      · by_cases q : a = n
        · subst q
          rw [hl] at h1; cases h1
          exact .inr ⟨rfl, hi⟩
        · exact .inl (by omega)
      · exact absurd h (Nat.not_lt_zero _)
  refine ⟨x.nd, fun q => (x.mem q).trans ⟨?_, ?_⟩, fun q hq => ?_, fun q hq z => (x.ahd q hq z).trans ⟨?_, ?_⟩, fun q hq => Nat.le_trans (x.sz q hq) hs1, Nat.le_trans x.szk hs2⟩
  · rintro ⟨a, i, l', h1, h2, h3⟩; exact ⟨a, i, l', (e h2 h3).mp h1, h2, h3⟩
  · rintro ⟨a, i, l', h1, h2, h3⟩; exact ⟨a, i, l', (e h2 h3).mpr h1, h2, h3⟩
  · obtain ⟨⟨i, l', h1, h2, h3⟩, h4⟩ := x.fst q hq
    exact ⟨⟨i, l', (e h2 h3).mp h1, h2, h3⟩, fun a i l' g1 g2 g3 => h4 a i l' ((e g2 g3).mpr g1) g2 g3⟩
  · rintro ⟨a, i, l', h1, h2, h3, h4⟩; exact ⟨a, i, l', (e h2 h3).mp h1, h2, h3, h4⟩
  · rintro ⟨a, i, l', h1, h2, h3, h4⟩; exact ⟨a, i, l', (e h2 h3).mpr h1, h2, h3, h4⟩
/-- the whole -/
theorem TInv.mem_end (x : TInv lines lines.length 0 d) (p : Int) : p ∈ d.ks ↔ ∃ l ∈ lines, p ∈ l := by
  rw [x.mem p]
  constructor
  · rintro ⟨a, i, l, _, h2, h3⟩; exact ⟨l, List.mem_of_getElem? h2, List.mem_of_getElem? h3⟩
  · rintro ⟨l, hl, hp⟩
    obtain ⟨a, ha, rfl⟩ := List.mem_iff_getElem.mp hl
    obtain ⟨i, hi, rfl⟩ := List.mem_iff_getElem.mp hp
    exact ⟨a, i, lines[a], .inl ha, List.getElem?_eq_getElem ha, List.getElem?_eq_getElem hi⟩
theorem TInv.fst_end (x : TInv lines lines.length 0 d) {p : Int} (hp : p ∈ d.ks) : d.f p = fstOf lines p := by
  obtain ⟨⟨i, l, h1, h2, h3⟩, h4⟩ := x.fst p hp
  have u := fst_le h2 (List.mem_of_getElem? h3)
  obtain ⟨l', g1, g2⟩ := fst_get (lines := lines) (p := p) ((x.mem_end p).mp hp)
  obtain ⟨i', hi', e⟩ := List.mem_iff_getElem.mp g2
  have := h4 (fstOf lines p) i' l' (.inl (List.getElem?_eq_some_iff.mp g1).1) g1 (by rw [List.getElem?_eq_getElem hi', e])
  omega
theorem TInv.ahd_end (x : TInv lines lines.length 0 d) {p : Int} (hp : p ∈ d.ks) (ready : List Int) : ((d.ah p).all fun q => ready.contains q) = true ↔ ∀ l ∈ lines, aheadOk ready l p := by
  rw [List.all_eq_true]
  constructor
  · intro h l hl i hi q hq
    obtain ⟨a, ha, rfl⟩ := List.mem_iff_getElem.mp hl
    have := h q ((x.ahd p hp q).mpr ⟨a, i, lines[a], .inl ha, List.getElem?_eq_getElem ha, hi, hq⟩)
    simpa using this
  · intro h q hq
    obtain ⟨a, i, l, _, h2, h3, h4⟩ := (x.ahd p hp q).mp hq
    simpa using h l (List.mem_of_getElem? h2) i h3 q h4
def freeT (d : TD) (ready : List Int) : List Int := d.ks.filter fun p => !ready.contains p && (d.ah p).all fun q => ready.contains q
def selT (f : Int → Nat) (fs : List Int) : Int := (fs.find? fun x => fs.all fun y => decide (f x ≤ f y)).getD 0
theorem freeT_iff (x : TInv lines lines.length 0 d) (ready : List Int) (p : Int) : p ∈ freeT d ready ↔ IsFree lines ready p := by
  unfold freeT IsFree
  rw [List.mem_filter]
  constructor
  · rintro ⟨h1, h2⟩
    simp only [Bool.and_eq_true] at h2
    exact ⟨(x.mem_end p).mp h1, by simpa using h2.1, (x.ahd_end h1 ready).mp h2.2⟩
  · rintro ⟨h1, h2, h3⟩
    have hp := (x.mem_end p).mpr h1
    refine ⟨hp, ?_⟩
    simp only [Bool.and_eq_true]
    exact ⟨by simpa using h2, (x.ahd_end hp ready).mpr h3⟩
theorem exists_min (f : Int → Nat) : ∀ (fs : List Int), fs ≠ [] → ∃ x ∈ fs, ∀ y ∈ fs, f x ≤ f y
  | [], h => absurd rfl h
  | [a], _ => ⟨a, by simp, by simp⟩
  | a :: b :: r, _ => by
    obtain ⟨x, hx, hm⟩ := exists_min f (b :: r) (by simp)
    by_cases q : f a ≤ f x
    · refine ⟨a, by simp, fun y hy => ?_⟩
      rcases List.mem_cons.mp hy with rfl | hy
      · exact Nat.le_refl _
      · exact Nat.le_trans q (hm y hy)
    · refine ⟨x, List.mem_cons_of_mem _ hx, fun y hy => ?_⟩
      rcases List.mem_cons.mp hy with rfl | hy
      · omega
      · exact hm y hy
theorem selT_spec (f : Int → Nat) (fs : List Int) (h : fs ≠ []) : selT f fs ∈ fs ∧ ∀ y ∈ fs, f (selT f fs) ≤ f y := by
  unfold selT
  cases hq : fs.find? fun x => fs.all fun y => decide (f x ≤ f y) with
  | none =>
    obtain ⟨x, hx, hm⟩ := exists_min f fs h
    rw [List.find?_eq_none] at hq
    exact absurd (List.all_eq_true.mpr fun y hy => decide_eq_true (hm y hy)) (hq x hx)
  | some x =>
    have h1 := List.mem_of_find?_eq_some hq
    have h2 := List.find?_some hq
    exact ⟨h1, fun y hy => of_decide_eq_true (List.all_eq_true.mp h2 y hy)⟩
/-- the first of the least -/
theorem selT_eq {f : Int → Nat} {fs : List Int} {i : Nat} {x : Int} (hx : fs[i]? = some x) (h : ∀ j y, fs[j]? = some y → f x ≤ f y ∧ (j < i → f x < f y)) : selT f fs = x := by
  unfold selT
  have : fs.find? (fun x => fs.all fun y => decide (f x ≤ f y)) = some x := by
    rw [List.find?_eq_some_iff_append]
    refine ⟨?_, fs.take i, fs.drop (i + 1), ?_, ?_⟩
    · refine List.all_eq_true.mpr fun y hy => decide_eq_true ?_
      obtain ⟨j, hj, rfl⟩ := List.mem_iff_getElem.mp hy
      exact (h j _ (List.getElem?_eq_getElem hj)).1
    · obtain ⟨hi, e⟩ := List.getElem?_eq_some_iff.mp hx
      rw [← e]; simp
    · intro z hz
      obtain ⟨j, hj, rfl⟩ := List.mem_iff_getElem.mp hz
      have hj' : j < i := by simp at hj; omega
      have hl : j < fs.length := by simp at hj; omega
      have := (h j _ (List.getElem?_eq_getElem hl)).2 hj'
      cases q : (fs.all fun y => decide (f (fs.take i)[j] ≤ f y)) with
      | false => rfl
      | true =>
        have := of_decide_eq_true (List.all_eq_true.mp q x (List.mem_of_getElem? hx))
        rw [List.getElem_take] at this
        omega
  rw [this]; rfl
/-- the told order is the merge -/
theorem told_c3 (x : TInv lines lines.length 0 d) {u : List Int} (hu : u.Nodup) (hin : ∀ l ∈ lines, ∀ p ∈ l, p ∈ u) (hall : ∀ p ∈ u, ∃ l ∈ lines, p ∈ l) {n : Nat} (hn : u.length < n) :
    ∃ r, tlf lines (freeT d) (selT (fstOf lines)) n [] = some r ∧ r.Nodup ∧ (∀ p ∈ r, p ∈ u) ∧ c3f n lines [] = some (if r.length = u.length then some r else none, lines.map (left r)) := by
  have e : lines.map (left []) = lines := by
    conv => rhs; rw [← List.map_id lines]
    refine List.map_congr_left fun l _ => ?_
    unfold left
    simp
  obtain ⟨r, h1, h2, h3, h4⟩ := c3_told (lines := lines) (free := freeT d) (sel := selT (fstOf lines)) hu hin hall (fun ready p => freeT_iff x ready p) (fun fs hfs => selT_spec (fstOf lines) fs hfs) n [] List.nodup_nil (by simp) (by simpa using hn)
  rw [e] at h4
  exact ⟨r, h1, h2, h3, h4⟩
end Mine
end

section
open PySem PySem.W PyProof.Rows
set_option maxRecDepth 100000
namespace Mine
set_option linter.unusedVariables false
set_option linter.unusedSimpArgs false
/-- the two dicts at work -/
def hTG (prog : Program) (w : World) (env : Env) (W X : XS) (DF DA : Addr) (xf : List (Int × Int)) (ka : List Int) (ad : Int → Addr) (ah : Int → List Int) : Hp :=
  ⟨fun h => (∃ kf, h.DictOf (intKind prog w) DF kf ∧ All2 (fun (kv : Int × Value) (x : Int × Int) => kv.1 = x.1 ∧ ∃ t, kv.2 = .int x.2 t) kf xf) ∧ h.DictOf (intKind prog w) DA (ka.map fun k => (k, .ref (ad k))) ∧
    (∀ k ∈ ka, ∃ vs, h.PlainList (ad k) vs.toArray ∧ All2 (fun v (x : Int) => ∃ t, v = Value.int x t) vs (ah k)) ∧ (∀ k ∈ ka, W (ad k) ∧ X (ad k) ∧ ¬ Fa env (ad k)) ∧ (∀ k ∈ ka, ∀ k' ∈ ka, ad k = ad k' → k = k'),
  fun x k => ⟨let ⟨kf, d, r⟩ := x.1; ⟨kf, dictOf_at d fun o e => k _ o e, r⟩, dictOf_at x.2.1 fun o e => k _ o e, fun a ha => let ⟨vs, ⟨n, e⟩, r⟩ := x.2.2.1 a ha; ⟨vs, ⟨n, k _ _ e⟩, r⟩, x.2.2.2.1, x.2.2.2.2⟩⟩
abbrev xfT (d : TD) : List (Int × Int) := d.ks.map fun k => (k, (d.f k : Int))
def hTL (prog : Program) (w : World) (env : Env) (DF DA : Addr) (lines : List (List Int)) (W X : XS) (n j : Nat) : Hp :=
  ⟨fun h => ∃ d ad, TInv lines n j d ∧ (hTG prog w env W X DF DA (xfT d) d.ks ad d.ah).p h, fun x k => let ⟨d, ad, i, y⟩ := x; ⟨d, ad, i, (hTG ..).mono y k⟩⟩
section
variable {prog : Program} {w : World} {H0 : Heap} {env : Env} {W X : XS} {DF DA : Addr} {xf : List (Int × Int)} {ka : List Int} {ad : Int → Addr} {ah : Int → List Int} {lines : List (List Int)} {n j : Nat}
theorem hTG_keep {Z : XS} (hF : ¬ Z DF) (hA : ¬ Z DA) {h h' : Heap} (k : ∀ b o, ¬ Z b → h.get? b = some o → h'.get? b = some o) (x : (hTG prog w env W X DF DA xf ka ad ah).p h) (hL : ∀ a ∈ ka, ¬ Z (ad a)) : (hTG prog w env W X DF DA xf ka ad ah).p h' :=
  ⟨let ⟨kf, d, r⟩ := x.1; ⟨kf, dictOf_at d fun o e => k _ o hF e, r⟩, dictOf_at x.2.1 fun o e => k _ o hA e, fun a ha => let ⟨vs, ⟨n, e⟩, r⟩ := x.2.2.1 a ha; ⟨vs, ⟨n, k _ _ (hL a ha) e⟩, r⟩, x.2.2.2.1, x.2.2.2.2⟩
theorem hTG_off (hF : ¬ Fa env DF) (hA : ¬ Fa env DA) : (hTG prog w env W X DF DA xf ka ad ah).StOff (Fa env) := fun h h' k x => hTG_keep hF hA k x fun a ha => (x.2.2.2.1 a ha).2.2
theorem hTG_it {I : Addr} : (hTG prog w env W X DF DA xf ka ad ah).StIt I := fun h h' o fs e hd k x => by
  have dn : ∀ {D : Addr} {kvs : List (Int × Value)}, h.DictOf (intKind prog w) D kvs → ¬ D = I := by
    rintro D kvs ⟨o', es, ep, ho, _, hd', _⟩ rfl
    rw [e] at ho; cases ho
    rw [hd] at hd'; cases hd'
  obtain ⟨kf, d1, _⟩ := id x.1
  refine hTG_keep (Z := fun a => a = I) (dn d1) (dn x.2.1) (fun b o nb e => k b o nb e) x fun a ha q => ?_
  obtain ⟨vs, ⟨n, e'⟩, _⟩ := x.2.2.1 a ha
  have q : ad a = I := q
  rw [q, e] at e'; cases e'
  cases hd
theorem hTL_off (hF : ¬ Fa env DF) (hA : ¬ Fa env DA) : (hTL prog w env DF DA lines W X n j).StOff (Fa env) := fun h h' k ⟨d, ad, i, x⟩ => ⟨d, ad, i, hTG_off hF hA h h' k x⟩
theorem hTL_it {I : Addr} : (hTL prog w env DF DA lines W X n j).StIt I := fun h h' o fs e hd k ⟨d, ad, i, x⟩ => ⟨d, ad, i, hTG_it h h' o fs e hd k x⟩
theorem hTG_sets {W' X' : XS} {h : Heap} (x : (hTG prog w env W X DF DA xf ka ad ah).p h) (hs : ∀ a, W a → X a → (∃ vs, h.PlainList a vs) → W' a ∧ X' a) : (hTG prog w env W' X' DF DA xf ka ad ah).p h :=
  ⟨x.1, x.2.1, x.2.2.1, fun k hk => by
    obtain ⟨h1, h2, h3⟩ := x.2.2.2.1 k hk
    obtain ⟨vs, l, _⟩ := x.2.2.1 k hk
    obtain ⟨g1, g2⟩ := hs _ h1 h2 ⟨_, l⟩
    exact ⟨g1, g2, h3⟩, x.2.2.2.2⟩
theorem lookup_map {γ : Type} {f : Int → γ} {p : Int} : ∀ {ks : List Int}, (ks.map fun k => (k, f k)).lookup p = if p ∈ ks then some (f p) else none
  | [] => rfl
  | a :: ks => by
    rw [List.map_cons, List.lookup_cons]
    by_cases q : p = a
    · subst q; simp
    · have : (p == a) = false := by simpa using q
      rw [this, lookup_map (ks := ks)]
      simp [q]
theorem valueAt_map {f : Int → Value} {p : Int} {ks : List Int} (h : p ∈ ks) : valueAt (ks.map fun k => (k, f k)) p = some (f p) := by
  induction ks with
  | nil => cases h
  | cons a ks ih =>
    rw [List.map_cons, valueAt_cons]
    by_cases q : a = p
    · subst q; simp
    · rw [if_neg q]
      exact ih ((List.mem_cons.mp h).resolve_left fun e => q e.symm)
theorem stored_new {kvs : List (Int × Value)} {k : Int} {v : Value} (h : k ∉ kvs.map (·.1)) : stored kvs k v = kvs ++ [(k, v)] := by
  unfold stored
  rw [if_neg]
  intro q
  obtain ⟨x, hx, e⟩ := List.any_eq_true.mp q
  exact h (List.mem_map.mpr ⟨x, hx, of_decide_eq_true e⟩)
theorem all2_keys {R : (Int × Value) → (Int × Int) → Prop} {kf : List (Int × Value)} {xs : List (Int × Int)} (h : All2 (fun kv x => kv.1 = x.1 ∧ R kv x) kf xs) : kf.map (·.1) = xs.map (·.1) := by
  induction h with
  | nil => rfl
  | cons h _ ih => simp [h.1, ih]
theorem xfT_new {d : TD} {n : Nat} {p : Int} (h : p ∉ d.ks) : xfT (tNew d n p) = xfT d ++ [(p, (n : Int))] := by
  show (d.ks ++ [p]).map (fun k => (k, ((if k = p then n else d.f k : Nat) : Int))) = _
  rw [List.map_append]
  congr 1
  · refine List.map_congr_left fun k hk => ?_
    have : ¬ k = p := fun e => h (by rw [← e]; exact hk)
    rw [if_neg this]
  · simp
theorem plain_ne {h : Heap} {a D : Addr} {vs : Array Value} {kvs : List (Int × Value)} (l : h.PlainList a vs) (d : h.DictOf (intKind prog w) D kvs) : a ≠ D := by
  rintro rfl
  obtain ⟨n, e⟩ := l
  obtain ⟨o, es, ep, ho, _, hd, _⟩ := d
  rw [e] at ho; cases ho; cases hd
theorem hTG_setF {d : TD} {p : Int} {v : Value} {h : Heap} (hp : p ∉ d.ks) (hne : DF ≠ DA) (x : (hTG prog w env W X DF DA (xfT d) d.ks ad d.ah).p h) (hz : d.ks.length ≤ 16777216) (hv : ∃ t, v = .int (n : Int) t) :
    ∃ kvs, h.DictOf (intKind prog w) DF kvs ∧ kvs.length ≤ 16777216 ∧ ∀ h', h'.DictOf (intKind prog w) DF (stored kvs p v) → Heap.SameBut DF h h' → (hTG prog w env W X DF DA (xfT d ++ [(p, (n : Int))]) d.ks ad d.ah).p h' := by
  obtain ⟨⟨kf, dF, r⟩, dA, pl, r2⟩ := x
  have hk : kf.map (·.1) = d.ks := by
    rw [all2_keys r, List.map_map]
    show d.ks.map (fun k => k) = d.ks
    simp
  refine ⟨kf, dF, by rw [← List.length_map (f := (·.1)), hk]; exact hz, fun h' d' sb => ?_⟩
  rw [stored_new (by rw [hk]; exact hp)] at d'
  exact ⟨⟨_, d', r.append (.cons ⟨rfl, hv⟩ .nil)⟩, dictOf_at dA fun o e => (sb.2 _ (Ne.symm hne)).trans e, fun k hk => let ⟨vs, l, q⟩ := pl k hk; ⟨vs, let ⟨n, e⟩ := l; ⟨n, (sb.2 _ (plain_ne l dF)).trans e⟩, q⟩, r2⟩
theorem hTG_setA {p : Int} {L : Addr} {h : Heap} (hp : p ∉ ka) (hne : DF ≠ DA) (x : (hTG prog w env W X DF DA xf ka ad ah).p h) (hz : ka.length ≤ 16777216) (nX : ¬ X L) (hW : W L) (hF : ¬ Fa env L) (hL : h.PlainList L #[]) :
    ∃ kvs, h.DictOf (intKind prog w) DA kvs ∧ kvs.length ≤ 16777216 ∧ ∀ h', h'.DictOf (intKind prog w) DA (stored kvs p (.ref L)) → Heap.SameBut DA h h' → (hTG prog w env W (xI X L) DF DA xf (ka ++ [p]) (fun k => if k = p then L else ad k) (fun k => if k = p then [] else ah k)).p h' := by
  obtain ⟨⟨kf, dF, r⟩, dA, pl, r2, inj⟩ := x
  have hn : ∀ k ∈ ka, k ≠ p := fun k hk e => hp (e ▸ hk)
  refine ⟨_, dA, by simpa using hz, fun h' d' sb => ?_⟩
  rw [stored_new (by simpa using hp)] at d'
  refine ⟨⟨kf, dictOf_at dF fun o e => (sb.2 _ hne).trans e, r⟩, ?_, fun k hk => ?_, fun k hk => ?_, fun k hk k' hk' e => ?_⟩
  · rw [List.map_append]
    have e1 : (ka.map fun k => (k, Value.ref (if k = p then L else ad k))) = ka.map fun k => (k, Value.ref (ad k)) := List.map_congr_left fun k hk => by rw [if_neg (hn k hk)]
    rw [e1]
    simpa using d'
  · show ∃ vs, h'.PlainList (if k = p then L else ad k) vs.toArray ∧ All2 (fun v (x : Int) => ∃ t, v = Value.int x t) vs (if k = p then [] else ah k)
    rcases List.mem_append.mp hk with g | g
    · rw [if_neg (hn k g), if_neg (hn k g)]
      obtain ⟨vs, l, q⟩ := pl k g
      exact ⟨vs, let ⟨n, e⟩ := l; ⟨n, (sb.2 _ (plain_ne l dA)).trans e⟩, q⟩
    · have g : k = p := by simpa using g
      rw [if_pos g, if_pos g]
      exact ⟨[], let ⟨n, e⟩ := hL; ⟨n, (sb.2 _ (plain_ne hL dA)).trans e⟩, .nil⟩
  · show W (if k = p then L else ad k) ∧ xI X L (if k = p then L else ad k) ∧ ¬ Fa env (if k = p then L else ad k)
    rcases List.mem_append.mp hk with g | g
    · rw [if_neg (hn k g)]
      exact ⟨(r2 k g).1, .inl (r2 k g).2.1, (r2 k g).2.2⟩
    · have g : k = p := by simpa using g
      rw [if_pos g]
      exact ⟨hW, .inr rfl, hF⟩
  · have hx : ∀ k ∈ ka, ad k ≠ L := fun k hk e => nX (by rw [← e]; exact (r2 k hk).2.1)
    have e : (if k = p then L else ad k) = (if k' = p then L else ad k') := e
    rcases List.mem_append.mp hk with g | g
    · rcases List.mem_append.mp hk' with g' | g'
      · rw [if_neg (hn k g), if_neg (hn k' g')] at e
        exact inj k g k' g' e
      · have g' : k' = p := by simpa using g'
        rw [if_neg (hn k g), if_pos g'] at e
        exact absurd e (hx k g)
    · have g : k = p := by simpa using g
      rcases List.mem_append.mp hk' with g' | g'
      · rw [if_neg (hn k' g'), if_pos g] at e
        exact absurd e.symm (hx k' g')
      · have g' : k' = p := by simpa using g'
        rw [g, g']
theorem hTG_ext {p : Int} {us : List Value} {ys : List Int} {h h' : Heap} (hp : p ∈ ka) (x : (hTG prog w env W X DF DA xf ka ad ah).p h) {vs : List Value} (hvs : All2 (fun v (x : Int) => ∃ t, v = Value.int x t) vs (ah p)) (hus : All2 (fun v (x : Int) => ∃ t, v = Value.int x t) us ys)
    (hl : h.PlainList (ad p) vs.toArray) (hl' : h'.PlainList (ad p) (vs ++ us).toArray) (sb : Heap.SameBut (ad p) h h') : (hTG prog w env W X DF DA xf ka ad (fun k => if k = p then ah p ++ ys else ah k)).p h' := by
  obtain ⟨⟨kf, dF, r⟩, dA, pl, r2, inj⟩ := x
  refine ⟨⟨kf, dictOf_at dF fun o e => (sb.2 _ (Ne.symm (plain_ne hl dF))).trans e, r⟩, dictOf_at dA fun o e => (sb.2 _ (Ne.symm (plain_ne hl dA))).trans e, fun k hk => ?_, r2, inj⟩
  show ∃ vs, h'.PlainList (ad k) vs.toArray ∧ All2 (fun v (x : Int) => ∃ t, v = Value.int x t) vs (if k = p then ah p ++ ys else ah k)
  by_cases q : k = p
  · rw [if_pos q, q]
    exact ⟨_, hl', hvs.append hus⟩
  · rw [if_neg q]
    obtain ⟨ws, l, z⟩ := pl k hk
    exact ⟨ws, let ⟨n, e⟩ := l; ⟨n, (sb.2 _ fun e => q (inj k hk p hp e)).trans e⟩, z⟩
theorem free_eq {d : TD} {ready : List Int} : ((xfT d).filter fun z => !ready.contains z.1 && (((d.ah z.1).map fun q => ready.contains q).all id && true)).map (fun x => x.1) = freeT d ready := by
  unfold freeT
  rw [List.filter_map, List.map_map]
  show (d.ks.filter _).map (fun k => k) = _
  rw [List.map_id']
  refine List.filter_congr fun k _ => ?_
  simp [Function.comp_def, List.all_map]
end
end Mine
end

section
open PySem PySem.W PyProof.Rows
set_option maxRecDepth 100000
namespace Mine
set_option linter.unusedVariables false
set_option linter.unusedSimpArgs false
/-- all objects but one -/
def allN (h : Heap) (L : Addr) : List (Addr × Obj) := (List.range h.objs.size).filterMap fun a => if a = L then none else (h.get? a).map fun o => (a, o)
theorem allN_mem {h : Heap} {L b : Addr} {o : Obj} : (b, o) ∈ allN h L ↔ b ≠ L ∧ h.get? b = some o := by
  unfold allN
  rw [List.mem_filterMap]
  constructor
  · rintro ⟨a, _, e⟩
    by_cases q : a = L
    · rw [if_pos q] at e; cases e
    · rw [if_neg q] at e
      obtain ⟨o', ho', e⟩ := Option.map_eq_some_iff.mp e
      cases e
      exact ⟨q, ho'⟩
  · rintro ⟨n, e⟩
    refine ⟨b, List.mem_range.mpr (Heap.lt_size e), ?_⟩
    rw [if_neg n, e]; rfl
def h00 : Heap := {}
theorem h00_get (a : Addr) : h00.get? a = none := get_none_of_size (Nat.zero_le _)
theorem allN_news {h : Heap} {L : Addr} : News h00 L h (allN h L) := fun p hp => by
  obtain ⟨n, e⟩ := allN_mem.mp (show (p.1, p.2) ∈ allN h L from hp)
  exact ⟨e, n, h00_get _⟩
theorem allN_get {h h' : Heap} {L : Addr} {own : List (Addr × Obj)} (x : News h00 L h' (allN h L ++ own)) : ∀ b o, b ≠ L → h.get? b = some o → h'.get? b = some o := fun b o n e =>
  (x (b, o) (List.mem_append_left _ (allN_mem.mpr ⟨n, e⟩))).1
/-- all is kept but a namespace, which still says the same -/
def KL (L : Addr) (m : Str → Option Value) (s s' : Shared) : Prop := ∃ h tk, s' = { s with heap := h, toks := tk } ∧ h.Ns L m ∧ ∀ b o, b ≠ L → s.heap.get? b = some o → h.get? b = some o
section
variable {prog : Program} {w : World} {A : Around} {E : Value → Shared → Prop} {s : Shared}
theorem min_key {L l q : Addr} {m : Str → Option Value} {vs : List Value} {Q : Value → Shared → Prop} (kf : Nat → Int) (hh : A.handled = none) (hm : s.heap.Ns L m) (hl : s.heap.IsList l vs.toArray) (hne : 0 < vs.length)
    (turn : ∀ i v s1, vs[i]? = some v → KL L m s s1 → wpAny (model prog w) A.in1 (call (.ref q) [v]) (fun x s2 => Keeps s1 s2 ∧ ∃ t, x = .int (kf i) t) (fun _ _ => False) s1)
    (hQ : ∀ i v s', vs[i]? = some v → (∀ j, j < vs.length → kf i ≤ kf j ∧ (j < i → kf i < kf j)) → KL L m s s' → Q v s') :
    wpAny (model prog w) A (call (.builtin "min") [.ref l] [(Str.ofString "key", .ref q)]) Q E s := by
  have hlL : l ≠ L := by
    rintro rfl
    obtain ⟨o, ho, _, n, hd⟩ := hl
    obtain ⟨o', es, ep, ho', hd', _⟩ := hm
    rw [ho] at ho'; cases ho'
    rw [hd] at hd'; cases hd'
  obtain ⟨ol, hol, hr⟩ := id hl
  refine kmk_min (h₀ := h00) (L := L) (m := m) (news := allN s.heap L) kf hh ⟨hm, (fun b o e => by rw [h00_get] at e; cases e), Nat.zero_le _⟩ allN_news (fun h F N => ?_) hne (fun i v hv h tk own F N => ?_) fun i v h' tk' hv hb F N => ?_
  · exact ⟨ol, allN_get (own := []) (by simpa using N) l ol hlL hol, hr⟩
  · refine wpAny_mono (turn i v _ hv ⟨h, tk, rfl, F.ns, allN_get N⟩) (fun x s2 h2 => ?_) fun _ _ q => q
    obtain ⟨⟨h2, t2, rfl, k2⟩, t, rfl⟩ := h2
    exact ⟨h2, t2, t, rfl, rfl, F.keeps k2, N.grown k2⟩
  · exact hQ i v _ hv hb ⟨h', tk', rfl, F.ns, allN_get (own := []) (by simpa using N)⟩
end
section
variable {prog : Program} {w : World} {H0 : Heap} {Z X0 X : XS} {s₀ s : Shared} {A : Around} {env : Env} {ρ : List (Str × Bd)} {Ω : Hp} {m : Nat} {pos p : Pos} {e : Expr} {b r : Bd} {E : Value → Shared → Prop} {Q : Flow → Shared → Prop} {rest : List Stmt} {α β : Type} {t : Ty α} {u : Ty β}
theorem Sx.kl (sx : Sx H0 Z s₀ ⟨A, X, env, ρ, Ω, m⟩ s) (hΩ : Ω.StOff (Fa env)) : ∃ mm, s.heap.Ns env.locals mm ∧ ∀ s', KL env.locals mm s s' → Sx H0 Z s₀ ⟨A, X, env, ρ, Ω, m⟩ s' := by
  have fr := sx.cx.fr
  obtain ⟨mm, hm, hv⟩ := fr.vars
  refine ⟨mm, hm, ?_⟩
  rintro s' ⟨h, tk, rfl, hn, k⟩
  have xl := fr.xl
  have kx : Kx X X s.heap h := fun b o nb e => ⟨nb, k b o (fun q => nb (q ▸ xl)) e⟩
  refine ⟨⟨⟨fr.kind, fr.gl, fr.bi, fr.xl, ⟨mm, hn, fun n b e => ?_⟩, fun n c e => ?_, fr.apart⟩, sx.cx.wd.kx kx, fun a q => ?_, hΩ _ _ (fun b o nb e => k b o (fun q => nb (.inl q)) e) sx.cx.om, sx.cx.ok⟩, ?_, sx.wl, sx.wc⟩
  · obtain ⟨v, hr, hc⟩ := hv n b e
    refine ⟨v, b.mono hr kx, hc.imp id ?_⟩
    rintro ⟨q, c, hcl, hcc⟩
    exact ⟨q, c, hcl, isCell_at hcc fun o e => k c o (frame_cells_ne fr hcl) e⟩
  · obtain ⟨q, v, hc⟩ := fr.cells n c e
    exact ⟨q, v, isCell_at hc fun o e' => k c o (frame_cells_ne fr e) e'⟩
  · by_cases z : a = env.locals
    · rw [z]; obtain ⟨o, _, _, ho, _⟩ := hn; exact ⟨o, ho⟩
    · obtain ⟨o, e⟩ := sx.cx.live a q; exact ⟨o, k a o z e⟩
  · obtain ⟨h0, t0, e0, kq⟩ := sx.k0
    refine ⟨h, tk, by rw [e0], fun b o nb e => ?_⟩
    have e1 := kq b o nb e
    have e2 : s.heap.get? b = some o := by rw [e0]; exact e1
    refine k b o (fun q => ?_) e2
    rcases sx.wl with z | z
    · exact nb (q ▸ z)
    · have q : b = env.locals := q
      rw [q, z] at e; cases e
/-- lambda p: first[p], called -/
theorem lam_call {f c' cell : Addr} {name qual : Str} {params : Arguments} {ar : Str} {fr : Str} {p1 p2 p3 : Pos} {scope : Scope} {pm ctv v0 : Value} {xs : List (Int × Int)} {k x : Int} {tk : Tok} {R : Result → Shared → Prop}
    (ok : OkA A 1) (wd : Wd H0 X s.heap) (lv : Live X s.heap) (lim : H0.NoLimit) (ho : s.heap.get? f = some (kla_obj name qual params (.Subscript (.Name fr p1) (.Name ar p2) p3) scope [(fr, cell)] pm c' ctv)) (hcd : s.heap.CodeRec (.ref c') qual)
    (hcell : s.heap.IsCell cell (some v0)) (hXc : X cell) (hv0 : ((tDict prog w tInt).at xs).rel X s.heap v0) (hx : xs.lookup k = some x)
    (hsc : scope.names = [(ar, .local), (fr, .free)]) (hne : (fr == ar) = false) (hkind : scope.kind = .function) (hco : scope.isCoroutine = false) (hgen : scope.isGenerator = false)
    (hb : bindArgs (kla_fn name qual params (.Subscript (.Name fr p1) (.Name ar p2) p3) scope [(fr, cell)] pm (.ref c') ctv) ⟨[.int k tk], []⟩ = pure [(ar, .int k tk)])
    (h1 : (fr == ("__classdict__" : Str)) = false) (h2 : (fr == ("__debug__" : Str)) = false) (h3 : (ar == ("__classdict__" : Str)) = false) (h4 : (ar == ("__debug__" : Str)) = false)
    (hR : ∀ s' t', Keeps s s' → R (.ok (.ret (.int x t'))) s') : codeAny (model prog w) A (.call (.ref f) ⟨[.int k tk], []⟩) R s := by
  refine kla_callFunE (by have := ok.dp; omega) ho rfl hco hgen rfl hcd ?_
  rw [hb]
  have hla : scope.names.lookup ar = some .local := by rw [hsc]; simp [List.lookup_cons]
  have hlf : scope.names.lookup fr = some .free := by rw [hsc]; simp [List.lookup_cons, hne]
  refine wpAny_pure (wpAny_newFunctionEnv (fun y hy => ?_) (fun y hy => ?_) (fun h₁ hns hsb => ?_) hkind)
  · rw [hsc] at hy
    rcases List.mem_cons.mp hy with rfl | hy
    · intro q; cases q
    · rcases List.mem_cons.mp hy with rfl | hy
      · intro q; cases q
      · cases hy
  · obtain rfl := List.mem_singleton.mp hy
    exact hla
  have k1 : Keep s.heap h₁ := fun b o e => hsb.extBut b o (Nat.ne_of_lt (Heap.lt_size e)) (Heap.get?_push_of_some _ e)
  have fL : s.heap.get? s.heap.objs.size = none := get_none_of_size (Nat.le_refl _)
  refine ⟨(lim.keeps wd.keep).keeps k1, ?_⟩
  refine kla_codeExpr ?_
  have nXL : ¬ X s.heap.objs.size := lv.fresh
  have kx : Kx X (xI X s.heap.objs.size) s.heap h₁ := fun b o nb e => ⟨fun q => q.elim nb fun q => (by rw [q, fL] at e; cases e), k1 b o e⟩
  have cx : Cx H0 ⟨A.deeper (newEnv scope s.heap.objs.size mainGlobals [(fr, cell)] (qual ++ ".<locals>.") (some f) (.ref c') none builtinsNs), xI X s.heap.objs.size, newEnv scope s.heap.objs.size mainGlobals [(fr, cell)] (qual ++ ".<locals>.") (some f) (.ref c') none builtinsNs, [(ar, tInt.at k), (fr, (tDict prog w tInt).at xs)], hTrue, 0⟩ { s with heap := h₁, toks := s.toks + 1 } := by
    refine ⟨⟨hkind, rfl, rfl, .inr rfl, ⟨_, hns, fun n b e => ?_⟩, fun n c e => ?_, List.pairwise_singleton _ _⟩, wd.kx kx, ?_, trivial, ok.deeper _⟩
    · simp only [List.lookup_cons] at e
      cases q : n == ar with
      | true =>
        simp only [q] at e; cases e
        have hn : n = ar := by simpa using q
        subst hn
        exact ⟨.int k tk, ⟨tk, rfl⟩, .inl ⟨hla, by simp⟩⟩
      | false =>
        simp only [q] at e
        cases q2 : n == fr with
        | true =>
          simp only [q2] at e; cases e
          have hn : n = fr := by simpa using q2
          subst hn
          exact ⟨v0, (tDict prog w tInt).mono hv0 kx, .inr ⟨.inr hlf, cell, by simp [newEnv], isCell_at hcell fun o e => k1 _ _ e⟩⟩
        | false => simp [q2] at e
    · have e : List.lookup n [(fr, cell)] = some c := e
      simp only [List.lookup_cons] at e
      cases q : n == fr with
      | true => simp [q] at e; subst e; exact ⟨.inl hXc, _, isCell_at hcell fun o e => k1 _ _ e⟩
      | false => simp [q] at e
    · rintro a (q | q)
      · obtain ⟨o, e⟩ := lv a q; exact ⟨o, k1 a o e⟩
      · rw [q]; obtain ⟨o, _, _, ho, _⟩ := hns; exact ⟨o, ho⟩
  have hn1 : List.lookup fr [(ar, tInt.at k), (fr, (tDict prog w tInt).at xs)] = some ((tDict prog w tInt).at xs) := by simp [List.lookup_cons, hne]
  have hn2 : List.lookup ar [(ar, tInt.at k), (fr, (tDict prog w tInt).at xs)] = some (tInt.at k) := by simp [List.lookup_cons]
  refine wpAny_mono (ev_itemD (prog := prog) (w := w) (H0 := H0) (t := tInt) (xs := xs) (k := k) (x := x) (ev_var hn1 h1 h2) (ev_var hn2 h3 h4) hx (fun _ _ => rfl) (fun _ _ => rfl) _ cx _) (fun v s' q => ?_) fun _ _ q => q
  obtain ⟨kk, t', rfl⟩ := q
  refine hR s' t' (Keeps.trans ⟨h₁, _, rfl, k1⟩ kk)
end
end Mine
end

section
open PySem PySem.W PyProof.Rows
set_option maxRecDepth 100000
namespace Mine
set_option linter.unusedVariables false
set_option linter.unusedSimpArgs false
/-- the table of code made in the def -/
def hTab (env : Env) (R : Addr) (qual : Str) (pos : Pos) : Hp := ⟨fun h => h.get? 201 = some (tabObj #[]) ∨ ∃ c' : Addr, ¬ Fa env c' ∧ c' ≠ R ∧ h.get? 201 = some (tabObj #[rawInt pos.line, rawInt pos.col, .ref c']) ∧ h.CodeRec (.ref c') qual,
  fun x k => x.imp (k _ _) fun ⟨c', a, b, c, d⟩ => ⟨c', a, b, k _ _ c, d.keeps k⟩⟩
theorem hTab_off {env : Env} {R : Addr} {qual : Str} {pos : Pos} {Z : XS} (h1 : ¬ Z 201) (h2 : ∀ c', ¬ Fa env c' → c' ≠ R → ¬ Z c') : (hTab env R qual pos).StOff Z := by
  rintro h h' k (x | ⟨c', a, b, c, ⟨c2, o, vs, t, e, g, r⟩⟩)
  · exact .inl (k _ _ h1 x)
  · refine .inr ⟨c', a, b, k _ _ h1 c, c2, o, vs, t, e, k _ _ ?_ g, r⟩
    cases e
    exact h2 c' a b
section
variable {prog : Program} {w : World} {H0 : Heap} {Z X0 X : XS} {s₀ s : Shared} {A : Around} {env : Env} {ρ : List (Str × Bd)} {Ω : Hp} {m : Nat} {pos p : Pos} {e : Expr} {b r : Bd} {E : Value → Shared → Prop} {Q : Flow → Shared → Prop} {rest : List Stmt} {α β : Type} {t : Ty α} {u : Ty β}
/-- append to an own list, where the argument's reckoning changes what is own -/
theorem st_appendS {D : Addr} {out : Str} {ys : List β} {y : β} {np apos cpos pos : Pos} (sx : Sx H0 Z s₀ ⟨A, X, env, ρ, hAnd (hList X u D ys) Ω, m⟩ s) (hv : ρ.lookup out = some (bVal (.ref D))) (hn : (out == ("__classdict__" : Str)) = false) (hd : (out == ("__debug__" : Str)) = false)
    (he : ∀ s1, Sx H0 Z s₀ ⟨A, X, env, ρ, hAnd (hList X u D ys) Ω, m⟩ s1 → ∀ E', wpAny (model prog w) A (eval e env) (fun v s2 => Sx H0 Z s₀ ⟨A, X, env, ρ, hAnd (hList X u D ys) Ω, m⟩ s2 ∧ (u.at y).rel X s2.heap v) E' s1)
    (hX : X D) (hF : ¬ Fa env D) (hZ : Z D ∨ s₀.heap.get? D = none) (hΩ : Ω.StOff fun a => a = D) (hsz : ys.length ≤ 16777216)
    (hst : ∀ env, starEach [e] env = [(false, eval e env)]) (hbase : attributeBase (.Name out np) "append" env (eval (.Name out np) env) = eval (.Name out np) env) (hline : (apos.endLine == cpos.line) = true)
    (hi : interactive env = false)
    (k : ∀ s', Sx H0 Z s₀ ⟨A, X, env, ρ, hAnd (hList X u D (ys ++ [y])) Ω, m⟩ s' → wpAny (model prog w) A (execs rest env) Q E s') :
    wpAny (model prog w) A (execs (.Expr (.Call (.Attribute (.Name out np) "append" apos) [e] [] cpos) pos :: rest) env) Q E s := by
  refine wpAny_execs_cons (wpAny_Expr (wpAny_Call_append hbase (by rw [hst]; rfl) hline (by rw [hst]; rfl) ((ev_var (g := ⟨A, X, env, ρ, hAnd (hList X u D ys) Ω, m⟩) hv hn hd).use sx.cx fun v s1 k1 c1 r1 => ?_)) hi rfl)
  obtain rfl : v = .ref D := r1
  obtain ⟨vs, l1, r1⟩ := c1.om.1
  refine ⟨D, _, rfl, l1, wpAny_mono (he s1 (sx.keep k1) _) (fun v s2 q => ?_) fun _ _ q => q⟩
  obtain ⟨sx2, r2⟩ := q
  obtain ⟨vs2, l2, q2⟩ := sx2.cx.om.1
  refine list_append_plainL (hsz := by rw [sizeLine_eq]; have := q2.length; simp; omega) l2 fun h3 l3 sb3 => ?_
  have kx : Kx X X s2.heap h3 := fun b o n e => ⟨n, (sb3.2 b fun q => n (q ▸ hX)).trans e⟩
  refine k _ (sx2.turn (tk := s2.toks) hX hF hZ (fun b o nb e => (sb3.2 b nb).trans e) (let ⟨o, _, e, _⟩ := l3; ⟨o, e⟩) ⟨⟨vs2 ++ [v], by simpa using l3, ?_⟩, hΩ _ _ (fun b o nb e => (sb3.2 b nb).trans e) sx2.cx.om.2⟩)
  exact (q2.imp fun _ _ q => u.mono q kx).append (.cons (u.mono r2 kx) .nil)
/-- a lambda made -/
theorem lam_make {R : Addr} {params : Arguments} {body : Expr} {scope : Scope} {K : Frag} (W : W0 K H0) (hB : ∃ mg, H0.Ns mainGlobals mg ∧ H0.BuiltinsAt mg 201) (hC : CodeHd H0 203 201)
    (sx : Sx H0 Z s₀ ⟨A, X, env, ρ, hAnd Ω (hTab env R (env.qual ++ "<lambda>") pos), m⟩ s) (hcode : env.code = .ref 203) (hX201 : X 201) (hF201 : ¬ Fa env 201) (hZ201 : Z 201 ∨ s₀.heap.get? 201 = none) (hΩ : Ω.StOff fun a => a = 201)
    (hR : ∃ o, s.heap.get? R = some o) (hdef : defaultsOf params env = ([], [])) (hfr : (scope.names.all fun x => x.2 != .free || (env.cells.lookup x.1).isSome) = true) :
    wpAny (model prog w) A (eval (.Lambda params body scope pos) env) (fun v s' => Sx H0 Z s₀ ⟨A, X, env, ρ, hAnd Ω (hTab env R (env.qual ++ "<lambda>") pos), m⟩ s' ∧ (∀ b o, b ≠ 201 → s.heap.get? b = some o → s'.heap.get? b = some o) ∧
      ∃ f c' pm ctv, v = .ref f ∧ s'.heap.get? f = some (kla_obj "<lambda>" (env.qual ++ "<lambda>") params body scope (clos env.cells scope.names []) pm c' ctv) ∧ s'.heap.CodeRec (.ref c') (env.qual ++ "<lambda>")) E s := by
  obtain ⟨mg, hg, bm, ob, b1, b2, b3, b4, b5, b6⟩ := hB
  have kH := sx.cx.wd.keep
  have hcl := closureFor_eq hfr
  refine kla_eval hdef ?_
  have hBs : s.heap.BuiltinsAt mg 201 := ⟨bm, ob, b1, b2, b3, b4, kH _ _ b5, b6⟩
  have hCs : CodeHd s.heap 203 201 := hC.keeps kH
  have om := sx.cx.om
  rcases om.2 with hT | ⟨c', nFa, nR, hT, hrec⟩
  · refine kla_makeFunction (ps := #[]) (mg := mg) hcl sx.cx.fr.gl (hg.keeps kH) hcode hCs hT trivial rfl (by decide) hBs fun c' ctv h' tk hx hge hlt hrec htb => ?_
    have k1 : ∀ b o, b ≠ 201 → s.heap.get? b = some o → (h'.push (kla_obj "<lambda>" (env.qual ++ "<lambda>") params body scope (clos env.cells scope.names []) ((mg "__name__").getD .none) c' ctv)).get? b = some o := fun b o nb e => Heap.get?_push_of_some _ (hx b o nb e)
    have htb' : h'.get? 201 = some (tabObj #[rawInt pos.line, rawInt pos.col, .ref c']) := by simpa using htb
    refine ⟨sx.turn (tk := tk) hX201 hF201 hZ201 k1 ⟨_, Heap.get?_push_of_some _ htb'⟩ ⟨hΩ _ _ (fun b o nb e => k1 b o nb e) om.1, .inr ⟨c', fun fa => ?_, fun q => ?_, Heap.get?_push_of_some _ htb', hrec.push _⟩⟩, k1, _, c', _, ctv, rfl, Heap.get?_push_size _ rfl, hrec.push _⟩
    · obtain ⟨o, e⟩ := sx.cx.live c' (sx.cx.fr.fa_x fa)
      exact Nat.lt_irrefl _ (Nat.lt_of_lt_of_le (Heap.lt_size e) hge)
    · obtain ⟨o, e⟩ := hR
      rw [← q] at e
      exact Nat.lt_irrefl _ (Nat.lt_of_lt_of_le (Heap.lt_size e) hge)
  · refine kla_makeFunctionHit (cv := .ref c') (ps := #[rawInt pos.line, rawInt pos.col, .ref c']) (mg := mg) hcl sx.cx.fr.gl (hg.keeps kH) hcode hCs hT trivial (by simp [codeAmong, rawInt]) hBs fun ctv h' tk hk hsz => ?_
    have k1 : ∀ b o, s.heap.get? b = some o → (h'.push (kla_obj "<lambda>" (env.qual ++ "<lambda>") params body scope (clos env.cells scope.names []) ((mg "__name__").getD .none) c' ctv)).get? b = some o := fun b o e => Heap.get?_push_of_some _ (hk b o e)
    exact ⟨sx.keep ⟨_, tk, rfl, k1⟩, fun b o _ e => k1 b o e, _, c', _, ctv, rfl, Heap.get?_push_size _ rfl, hrec.keeps k1⟩
end
end Mine
end

section
open PySem PySem.W PyProof.Rows
set_option maxRecDepth 100000
namespace Mine
set_option linter.unusedVariables false
set_option linter.unusedSimpArgs false
section
variable {prog : Program} {w : World} {H0 : Heap} {Z X0 X : XS} {s₀ s : Shared} {A : Around} {env : Env} {ρ : List (Str × Bd)} {Ω : Hp} {m : Nat} {pos p : Pos} {e : Expr} {b r : Bd} {E : Value → Shared → Prop} {Q : Flow → Shared → Prop} {rest : List Stmt} {α β : Type} {t : Ty α} {u : Ty β}
theorem codeRec_ne {h h' : Heap} {c : Addr} {q : Str} {L : Addr} {mm : Str → Option Value} (x : h.CodeRec (.ref c) q) (hL : h.Ns L mm) (k : ∀ b o, b ≠ L → h.get? b = some o → h'.get? b = some o) : h'.CodeRec (.ref c) q := by
  obtain ⟨o, es, ep, ho, hd, _⟩ := hL
  exact x.keepsBut k ho fun vs q => by rw [hd] at q; cases q
/-- min(a list, key=lambda p: first[p]) -/
theorem min_lambda {R : Addr} {params : Arguments} {scope : Scope} {K : Frag} {ar fr free : Str} {fp np p1 p2 p3 lpos kp : Pos} {fs : List Int} {xs : List (Int × Int)} {f : Int → Nat} (W : W0 K H0) (hB : ∃ mg, H0.Ns mainGlobals mg ∧ H0.BuiltinsAt mg 201) (hC : CodeHd H0 203 201)
    (sx : Sx H0 Z s₀ ⟨A, X, env, ρ, hAnd Ω (hTab env R (env.qual ++ "<lambda>") lpos), m⟩ s) (hm : 2 ≤ m) (hcode : env.code = .ref 203) (hX201 : X 201) (hF201 : ¬ Fa env 201) (hZ201 : Z 201 ∨ s₀.heap.get? 201 = none) (hΩ : Ω.StOff fun a => a = 201) (hΩF : Ω.StOff (Fa env))
    (hR : ∀ s', Sx H0 Z s₀ ⟨A, X, env, ρ, hAnd Ω (hTab env R (env.qual ++ "<lambda>") lpos), m⟩ s' → ∃ o, s'.heap.get? R = some o) (hdef : defaultsOf params env = ([], [])) (hfr : (scope.names.all fun x => x.2 != .free || (env.cells.lookup x.1).isSome) = true)
    (hmin : nsIn K mainGlobals "min" = some none) (hkm : env.kindOf "min" = some .globalImplicit)
    (hv1 : ρ.lookup free = some ((tList tInt).at fs)) (hf1 : (free == ("__classdict__" : Str)) = false) (hf2 : (free == ("__debug__" : Str)) = false)
    (hv2 : ρ.lookup fr = some ((tDict prog w tInt).at xs)) (hk2 : env.kindOf fr = some .cell)
    (hne : fs ≠ []) (hxs : ∀ p ∈ fs, xs.lookup p = some (f p : Int))
    (hsc : scope.names = [(ar, .local), (fr, .free)]) (hnm : (fr == ar) = false) (hkind : scope.kind = .function) (hco : scope.isCoroutine = false) (hgen : scope.isGenerator = false)
    (hb : ∀ cl pm c' ctv k tk, bindArgs (kla_fn "<lambda>" (env.qual ++ "<lambda>") params (.Subscript (.Name fr p1) (.Name ar p2) p3) scope cl pm c' ctv) ⟨[.int k tk], []⟩ = pure [(ar, .int k tk)])
    (h1 : (fr == ("__classdict__" : Str)) = false) (h2 : (fr == ("__debug__" : Str)) = false) (h3 : (ar == ("__classdict__" : Str)) = false) (hq4 : (ar == ("__debug__" : Str)) = false)
    (hplain : (backTo pos (starEach [.Name free np] env)).any (·.1) = false) (hkw : (backToKw pos (keywordEach [⟨some (Str.ofString "key"), .Lambda params (.Subscript (.Name fr p1) (.Name ar p2) p3) scope lpos, kp⟩] env)).any (·.1.isNone) = false)
    (he : starEach [.Name free np] env = (false, eval (.Name free np) env) :: starEach [] env)
    (hkwe : backToKw pos (keywordEach [⟨some (Str.ofString "key"), .Lambda params (.Subscript (.Name fr p1) (.Name ar p2) p3) scope lpos, kp⟩] env) = [(some (Str.ofString "key"), do let v ← eval (.Lambda params (.Subscript (.Name fr p1) (.Name ar p2) p3) scope lpos) env; standAt pos; pure v)]) :
    wpAny (model prog w) A (eval (.Call (.Name "min" fp) [.Name free np] [⟨some (Str.ofString "key"), .Lambda params (.Subscript (.Name fr p1) (.Name ar p2) p3) scope lpos, kp⟩] pos) env)
      (fun v s' => Sx H0 Z s₀ ⟨A, X, env, ρ, hAnd Ω (hTab env R (env.qual ++ "<lambda>") lpos), m⟩ s' ∧ (tInt.at (selT f fs)).rel X s'.heap v) E s := by
  refine wpAny_Call_Name_kw ((ev_boot (g := ⟨A, X, env, ρ, hAnd Ω (hTab env R (env.qual ++ "<lambda>") lpos), m⟩) W hkm hmin rfl (by decide) rfl).use sx.cx fun v s1 k1 c1 r1 => ?_)
  obtain rfl : v = .builtin "min" := r1
  refine callWith_builtin_kwB hplain hkw ?_
  rw [he, hkwe]
  refine evalArgs_kwB rfl ?_
  refine Calls.spliced_cons ((ev_var (g := ⟨A, X, env, ρ, hAnd Ω (hTab env R (env.qual ++ "<lambda>") lpos), m⟩) hv1 hf1 hf2).use c1 fun v s2 k2 c2 r2 => Calls.spliced_nil ?_)
  have sx2 := (sx.keep k1).keep k2
  show wpAny _ _ (evalAll [do let v ← eval (.Lambda params (.Subscript (.Name fr p1) (.Name ar p2) p3) scope lpos) env; standAt pos; pure v]) _ _ _
  refine wpAny_evalAll_cons (wpAny_bind (wpAny_mono (lam_make W hB hC sx2 hcode hX201 hF201 hZ201 hΩ (hR s2 sx2) hdef hfr) (fun kv s3 q3 => ?_) fun _ _ q => q))
  obtain ⟨sx3, k3, fa, c', pm, ctv, rfl, ho, hcd⟩ := q3
  refine wpAny_bind (wpAny_standAt (wpAny_pure (wpAny_evalAll_nil ?_)))
  show wpAny _ _ (call (.builtin "min") [v] [(Str.ofString "key", .ref fa)]) _ _ _
  obtain ⟨l, vs, rfl, nl, hl2, r⟩ := r2
  have kx23 : Kx X X s2.heap s3.heap := fun b o nb e => ⟨nb, k3 b o (fun q => nb (q ▸ hX201)) e⟩
  obtain ⟨_, hl3⟩ := isList_kx kx23 nl hl2
  have hlen := r.length
  have offT : (hTab env R (env.qual ++ "<lambda>") lpos).StOff (Fa env) := hTab_off hF201 fun c' h _ => h
  obtain ⟨mm, hmm, hkl⟩ := sx3.kl (hAnd_off hΩF offT)
  have item : ∀ (i : Nat) (v : Value), vs[i]? = some v → ∃ p t, fs[i]? = some p ∧ v = .int p t := fun i v e => by
    obtain ⟨p, hp, t, rfl⟩ := r.get e
    exact ⟨p, t, hp, rfl⟩
  refine min_key (L := env.locals) (m := mm) (fun i => (f (fs.getD i 0) : Int)) sx3.cx.ok.hh hmm hl3 (by rw [hlen]; exact List.length_pos_iff.mpr hne) (fun i v s4 hv kl => ?_) fun i v s4 hv hbest kl => ?_
  · obtain ⟨p, t, hp, rfl⟩ := item i v hv
    have sx4 := hkl s4 kl
    obtain ⟨h4, t4, rfl, hn4, k4⟩ := kl
    obtain ⟨mm4, _, hv4⟩ := sx4.cx.fr.vars
    obtain ⟨v0, hr0, hc0⟩ := hv4 fr _ hv2
    have hgetD : fs.getD i 0 = p := by rw [List.getD_eq_getElem?_getD, hp]; rfl
    rcases hc0 with ⟨q, _⟩ | ⟨_, cell, hcl, hcc⟩
    · exact absurd (hk2.symm.trans q) (by intro q; cases q)
    have hclos : clos env.cells scope.names [] = [(fr, cell)] := by
      rw [hsc]
      show clos env.cells [(ar, .local), (fr, .free)] [] = _
      simp [clos, hcl]
    rw [hclos] at ho
    have hof : h4.get? fa = some _ := k4 fa _ (fun q => by
      obtain ⟨o, es, ep, ho', hd', _⟩ := hmm
      rw [← q, ho] at ho'; cases ho'; cases hd') ho
    refine wpAny_call (lam_call (H0 := H0) (X := X) (xs := xs) (x := (f p : Int)) (sx4.cx.ok.le hm).in1 sx4.cx.wd sx4.cx.live W.lim hof (codeRec_ne hcd hmm k4) hcc (sx4.cx.fr.cells fr cell hcl).1 hr0 (hxs p (List.mem_of_getElem? hp)) hsc hnm hkind hco hgen (hb _ _ _ _ _ _) h1 h2 h3 hq4 fun s' t' ks => ?_)
    exact ⟨ks, t', by rw [hgetD]⟩
  · obtain ⟨p, t, hp, rfl⟩ := item i v hv
    have hsel : selT f fs = p := selT_eq hp fun j y hy => by
      have hj := (List.getElem?_eq_some_iff.mp hy).1
      have hb := hbest j (by rw [hlen]; exact hj)
      have e1 : fs.getD i 0 = p := by rw [List.getD_eq_getElem?_getD, hp]; rfl
      have e2 : fs.getD j 0 = y := by rw [List.getD_eq_getElem?_getD, hy]; rfl
      simp only [e1, e2] at hb
      exact ⟨by omega, fun h => by have := hb.2 h; omega⟩
    exact ⟨hkl s4 kl, t, by rw [hsel]⟩
end
end Mine
end

section
open PySem PySem.W PyProof.Rows
set_option maxRecDepth 100000
namespace Mine
set_option linter.unusedVariables false
set_option linter.unusedSimpArgs false
def pkI (p : Pk) : List Int := [(p.1 : Int), (p.2.1 : Int), (p.2.2 : Int)]
def row (ps : List Pk) : List UInt8 := (ps.map pk).flatten
def quads (last : List UInt8) (ps : List Pk) : List UInt8 := (ps.map (quad last)).flatten
theorem bv_pk {p : Pk} (h : PkOk p) : bv (pk p) = pkI p := by
  obtain ⟨a, b, c⟩ := p
  obtain ⟨h1, h2, h3⟩ := h
  simp only at h1 h2 h3
  simp only [bv, pk, pkI, List.map_cons, List.map_nil]
  rw [show a.toUInt8.toNat = a from by simp; omega, show b.toUInt8.toNat = b from by simp; omega, show c.toUInt8.toNat = c from by simp; omega]
theorem bv_row : ∀ {ps : List Pk}, (∀ p ∈ ps, PkOk p) → bv (row ps) = (ps.map pkI).flatten
  | [], _ => rfl
  | p :: ps, h => by
    have ih := bv_row (ps := ps) fun q hq => h q (by simp [hq])
    unfold row bv at *
    rw [List.map_cons, List.flatten_cons, List.map_append, ih, List.map_cons, List.flatten_cons]
    congr 1
    exact bv_pk (h p (by simp))
theorem est_row : ∀ {ps : List Pk}, (∀ p ∈ ps, PkOk p) → ∀ (lc : Int) (out : List Int), 0 ≤ lc ∧ lc < 65536 → ∃ lc', ((ps.map pkI).flatten).foldl estep (0, lc, out) = (0, lc', out ++ ((ps.map qv).flatten).map tabv)
  | [], _, lc, out, _ => ⟨lc, by simp⟩
  | p :: ps, h, lc, out, hl => by
    have hp := h p (by simp)
    obtain ⟨lc1, hl1, e1⟩ := est_quad p hp.1 hp.2.1 hp.2.2 lc hl out
    obtain ⟨lc2, e2⟩ := est_row (ps := ps) (fun q hq => h q (by simp [hq])) lc1 (out ++ (qv p).map tabv) hl1
    refine ⟨lc2, ?_⟩
    rw [List.map_cons, List.flatten_cons, List.foldl_append]
    rw [show (pkI p).foldl estep (0, lc, out) = _ from e1, e2]
    simp [List.append_assoc]
theorem b64tab_eq : b64tab = sig62 ++ [43, 47] := rfl
theorem quads_eq {last : List UInt8} (ps : List Pk) : quads last ps = ((ps.map qv).flatten).map fun i => (sig62 ++ last).getD i.toNat 0 := by
  unfold quads
  induction ps with
  | nil => rfl
  | cons p ps ih => rw [List.map_cons, List.flatten_cons, ih, List.map_cons, List.flatten_cons, List.map_append]; rfl
theorem qvs_in {ps : List Pk} (h : ∀ p ∈ ps, PkOk p) : ∀ i ∈ (ps.map qv).flatten, 0 ≤ i ∧ i < 64 := by
  intro i hi
  obtain ⟨l, hl, hil⟩ := List.mem_flatten.mp hi
  obtain ⟨p, hp, rfl⟩ := List.mem_map.mp hl
  exact qv_in (h p hp) i hil
theorem row_len (ps : List Pk) : (row ps).length = ps.length * 3 := by
  unfold row
  rw [flat_len 3 _ (fun q hq => by obtain ⟨p, _, rfl⟩ := List.mem_map.mp hq; rfl), List.length_map]
theorem quads_len (last : List UInt8) (ps : List Pk) : (quads last ps).length = ps.length * 4 := by
  unfold quads
  rw [flat_len 4 _ (fun q hq => by obtain ⟨p, _, rfl⟩ := List.mem_map.mp hq; rfl), List.length_map]
theorem encOk_row {ps : List Pk} (h : ∀ p ∈ ps, PkOk p) (hz : ps.length ≤ 1000) : EncOk (row ps) := by
  refine ⟨by rw [row_len]; omega, ?_⟩
  rw [bv_row h]
  obtain ⟨lc, e⟩ := est_row h 0 [] ⟨by decide, by decide⟩
  unfold est
  rw [e]
theorem enc_row {ps : List Pk} (h : ∀ p ∈ ps, PkOk p) : enc (row ps) = quads [43, 47] ps := by
  unfold enc
  rw [bv_row h]
  obtain ⟨lc, e⟩ := est_row h 0 [] ⟨by decide, by decide⟩
  unfold est
  rw [e, quads_eq]
  simp only [List.nil_append, List.map_map]
  refine List.map_congr_left fun i _ => ?_
  show (tabv i).toNat.toUInt8 = _
  unfold tabv
  rw [b64tab_eq]; simp
/-- a table that turns one alphabet into the other -/
theorem tr_quads {tab l1 l2 : List UInt8} (ht : ∀ i < 64, tab.toArray.getD ((sig62 ++ l1).getD i 0).toNat ((sig62 ++ l1).getD i 0) = (sig62 ++ l2).getD i 0) {ps : List Pk} (h : ∀ p ∈ ps, PkOk p) : trb tab (quads l1 ps) = quads l2 ps := by
  rw [quads_eq, quads_eq]
  unfold trb
  rw [List.map_map]
  refine List.map_congr_left fun i hi => ?_
  have hi := qvs_in h i hi
  exact ht i.toNat (by omega)
theorem tUE : ∀ i < 64, tabUE.toArray.getD ((sig62 ++ [43, 47]).getD i 0).toNat ((sig62 ++ [43, 47]).getD i 0) = (sig62 ++ [45, 95]).getD i 0 := by decide +kernel
theorem tE : ∀ i < 64, tabE.toArray.getD ((sig62 ++ [43, 47]).getD i 0).toNat ((sig62 ++ [43, 47]).getD i 0) = (sig62 ++ [46, 126]).getD i 0 := by decide +kernel
theorem tUD : ∀ i < 64, tabUD.toArray.getD ((sig62 ++ [45, 95]).getD i 0).toNat ((sig62 ++ [45, 95]).getD i 0) = (sig62 ++ [43, 47]).getD i 0 := by decide +kernel
theorem tD : ∀ i < 64, tabD.toArray.getD ((sig62 ++ [46, 126]).getD i 0).toNat ((sig62 ++ [46, 126]).getD i 0) = (sig62 ++ [43, 47]).getD i 0 := by decide +kernel
def lastOf (k : Nat) : List UInt8 := if k % 3 = 0 then [43, 47] else if k % 3 = 1 then [45, 95] else [46, 126]
theorem wr_row {ps : List Pk} (h : ∀ p ∈ ps, PkOk p) (k : Nat) : wr k (row ps) = quads (lastOf k) ps := by
  unfold wr lastOf
  rw [enc_row h]
  split
  · rfl
  · split
    · exact tr_quads tUE h
    · exact tr_quads tE h
theorem vTab : ∀ i : Nat, i < 64 → b64v (((sig62 ++ [43, 47]).getD i 0).toNat : Int) = (i : Int) := by decide +kernel
theorem sv_quads {ps : List Pk} (h : ∀ p ∈ ps, PkOk p) : sv (quads [43, 47] ps) = (ps.map qv).flatten := by
  rw [quads_eq]
  unfold sv
  rw [List.map_map]
  conv => rhs; rw [← List.map_id ((ps.map qv).flatten)]
  refine List.map_congr_left fun i hi => ?_
  have hi := qvs_in h i hi
  have := vTab i.toNat (by omega)
  show b64v (((sig62 ++ [43, 47]).getD i.toNat 0).toNat : Int) = i
  rw [this]; omega
theorem dst_row : ∀ {ps : List Pk}, (∀ p ∈ ps, PkOk p) → ∀ (out : List Int), ((ps.map qv).flatten).foldl dstep (0, 0, out) = (0, 0, out ++ (ps.map pkI).flatten)
  | [], _, out => by simp
  | p :: ps, h, out => by
    have hp := h p (by simp)
    rw [List.map_cons, List.flatten_cons, List.foldl_append, dst_quad p hp.1 hp.2.1 hp.2.2 out, dst_row (ps := ps) (fun q hq => h q (by simp [hq])), List.map_cons, List.flatten_cons, List.append_assoc]; rfl
theorem decOk_quads {ps : List Pk} (h : ∀ p ∈ ps, PkOk p) (hz : ps.length ≤ 1000) : DecOk (quads [43, 47] ps) := by
  refine ⟨fun c hc => ?_, by rw [quads_len]; omega, ?_⟩
  · rw [quads_eq] at hc
    obtain ⟨i, hi, rfl⟩ := List.mem_map.mp hc
    have hi := qvs_in h i hi
    rw [vTab i.toNat (by omega)]; omega
  · rw [sv_quads h]; unfold dst; rw [dst_row h]
theorem dec_quads {ps : List Pk} (h : ∀ p ∈ ps, PkOk p) : dec (quads [43, 47] ps) = row ps := by
  unfold dec
  rw [sv_quads h]; unfold dst; rw [dst_row h]
  simp only [List.nil_append]
  rw [← bv_row h]
  unfold bv
  rw [List.map_map]
  conv => rhs; rw [← List.map_id (row ps)]
  refine List.map_congr_left fun c _ => ?_
  simp
theorem sig_low (last : List UInt8) (hl : ∀ c ∈ last, c.toNat < 128) (i : Nat) : ((sig62 ++ last).getD i 0).toNat < 128 := by
  rw [List.getD_eq_getElem?_getD]
  cases hq : (sig62 ++ last)[i]? with
  | none => decide
  | some c =>
    have hm := List.mem_of_getElem? hq
    rcases List.mem_append.mp hm with hm | hm
    · have : ∀ c ∈ sig62, c.toNat < 128 := by decide
      exact this c hm
    · exact hl c hm
theorem lastOf_low (k : Nat) : ∀ c ∈ lastOf k, c.toNat < 128 := by
  unfold lastOf; split
  · decide
  · split <;> decide
theorem rd_quads {ps : List Pk} (h : ∀ p ∈ ps, PkOk p) (hz : ps.length ≤ 1000) (k : Nat) : RdOk k (quads (lastOf k) ps) ∧ rd k (quads (lastOf k) ps) = row ps := by
  have hd := decOk_quads h hz
  have e1 : k % 3 = 0 → quads (lastOf k) ps = quads [43, 47] ps := fun q => by unfold lastOf; rw [if_pos q]
  have e2 : k % 3 = 1 → trb tabUD (quads (lastOf k) ps) = quads [43, 47] ps := fun q => by unfold lastOf; rw [if_neg (by omega), if_pos q]; exact tr_quads tUD h
  have e3 : k % 3 = 2 → trb tabD (quads (lastOf k) ps) = quads [43, 47] ps := fun q => by unfold lastOf; rw [if_neg (by omega), if_neg (by omega)]; exact tr_quads tD h
  refine ⟨⟨by rw [quads_len]; omega, fun c hc => ?_, fun q => e1 q ▸ hd, fun q => e2 q ▸ hd, fun q => e3 q ▸ hd⟩, ?_⟩
  · rw [quads_eq] at hc
    obtain ⟨i, hi, rfl⟩ := List.mem_map.mp hc
    exact sig_low _ (lastOf_low k) _
  · unfold rd
    by_cases q0 : k % 3 = 0
    · rw [if_pos q0, e1 q0]; exact dec_quads h
    · by_cases q1 : k % 3 = 1
      · rw [if_neg q0, if_pos q1, e2 q1]; exact dec_quads h
      · rw [if_neg q0, if_neg q1, e3 (by omega)]; exact dec_quads h
theorem pk_inj {p q : Pk} (hp : PkOk p) (hq : PkOk q) (e : pk p = pk q) : p = q := by
  have h1 := bv_pk hp
  rw [e, bv_pk hq] at h1
  obtain ⟨a, b, c⟩ := p
  obtain ⟨a', b', c'⟩ := q
  simp [pkI] at h1
  simp; omega
theorem quad_inj {p q : Pk} (hp : PkOk p) (hq : PkOk q) (e : quad [43, 47] p = quad [43, 47] q) : p = q := by
  have h1 := dec_quads (ps := [p]) (by simpa using hp)
  have h2 := dec_quads (ps := [q]) (by simpa using hq)
  have e' : quads [43, 47] [p] = quads [43, 47] [q] := by simp [quads, e]
  rw [e', h2] at h1
  refine pk_inj hp hq ?_
  simpa [row] using h1.symm
end Mine
end

section
open PySem PySem.W PyProof.Rows
set_option maxRecDepth 100000
namespace Mine
set_option linter.unusedVariables false
set_option linter.unusedSimpArgs false
def pat (ns : List Int) (p : Int) : Pk := pkt ns p.toNat
def pks (ns : List Int) : List Pk := (List.range 6).map (pkt ns)
theorem pat_ok (ns : List Int) (p : Int) : PkOk (pat ns p) := pkt_ok ns _
theorem pks_get {ns : List Int} {p : Int} (h : 0 ≤ p ∧ p < 6) : (pks ns)[p.toNat]? = some (pat ns p) := by
  unfold pks pat
  rw [List.getElem?_map, List.getElem?_range (by omega)]; rfl
theorem pks_ok (ns : List Int) : ∀ q ∈ pks ns, PkOk q := fun q hq => by
  obtain ⟨i, _, rfl⟩ := List.mem_map.mp hq; exact pkt_ok ns i
theorem pks_len (ns : List Int) : (pks ns).length = 6 := by simp [pks]
theorem nm_pks {ns : List Int} {g : Pk → List UInt8} {p : Int} (h : 0 ≤ p ∧ p < 6) : nmOf ((pks ns).map g) p = g (pat ns p) := by
  unfold nmOf
  rw [List.getD_eq_getElem?_getD, List.getElem?_map, pks_get h]; rfl
theorem pat_inj {ns : List Int} {p q : Int} (hp : 0 ≤ p ∧ p < 6) (hq : 0 ≤ q ∧ q < 6) (e : pat ns p = pat ns q) : p = q := by
  have e1 : (firstsL.getD p.toNat 0).toNat = (firstsL.getD q.toNat 0).toNat := congrArg (fun z : Pk => z.1) e
  have : ∀ i, i < 6 → ∀ j, j < 6 → (firstsL.getD i 0).toNat = (firstsL.getD j 0).toNat → i = j := by decide
  have := this p.toNat (by omega) q.toNat (by omega) e1
  omega
theorem bitsL_in6 (x : Int) : In6 (bitsL x) := fun p hp => by
  obtain ⟨i, hi, rfl⟩ := List.mem_map.mp hp
  have := List.mem_range.mp (List.mem_filter.mp hi).1
  omega
theorem lineOf_in6 (x : Int) : In6 (lineOf x) := fun p hp => by
  unfold lineOf at hp
  split at hp
  · exact bitsL_in6 x p (pickL_mem hp)
  · split at hp
    · rcases List.mem_append.mp hp with hp | hp
      · exact bitsL_in6 x p hp
      · exact bitsL_in6 x p (pickL_mem hp)
    · exact bitsL_in6 x p hp
theorem lineOf_len (x : Int) : (lineOf x).length ≤ 12 := by
  have h := bitsL_len x
  unfold lineOf
  split
  · exact Nat.le_trans (pickL_le _ _ _ _) (by omega)
  · split
    · rw [List.length_append]
      have := pickL_le (bitsL x) none (some 1) none
      omega
    · omega
theorem linesOf_mem {ns : List Int} {l : List Int} (h : l ∈ linesOf ns) : In6 l ∧ l.length ≤ 12 := by
  unfold linesOf at h
  rcases List.mem_append.mp h with h | h
  · rcases List.mem_append.mp h with h | h
    · obtain ⟨x, _, rfl⟩ := List.mem_map.mp h
      exact ⟨lineOf_in6 x, lineOf_len x⟩
    · have h : l = [1, 4] ∨ l = [0, 2, 4] ∨ l = [3, 5] := by simpa using h
      rcases h with rfl | rfl | rfl
      · exact ⟨fun p hp => by simp at hp; omega, by decide⟩
      · exact ⟨fun p hp => by simp at hp; omega, by decide⟩
      · exact ⟨fun p hp => by simp at hp; omega, by decide⟩
  · split at h
    · obtain ⟨i, hi, rfl⟩ := List.mem_map.mp h
      have := List.mem_range.mp hi
      exact ⟨fun p hp => by simp at hp; omega, by simp⟩
    · cases h
theorem linesOf_len (ns : List Int) : (linesOf ns).length ≤ ns.length + 8 := by
  unfold linesOf
  rw [List.length_append, List.length_append, List.length_map]
  split
  · simp
  · simp
theorem linesOf_all {ns : List Int} {p : Int} (h0 : 0 ≤ p) (h6 : p < 6) : ∃ l ∈ linesOf ns, p ∈ l := by
  have hm : ∀ l, l ∈ ([[1, 4], [0, 2, 4], [3, 5]] : List (List Int)) → l ∈ linesOf ns := fun l hl => List.mem_append_left _ (List.mem_append_right _ hl)
  have : p = 0 ∨ p = 1 ∨ p = 2 ∨ p = 3 ∨ p = 4 ∨ p = 5 := by omega
  rcases this with rfl | rfl | rfl | rfl | rfl | rfl
  · exact ⟨[0, 2, 4], hm _ (by simp), by simp⟩
  · exact ⟨[1, 4], hm _ (by simp), by simp⟩
  · exact ⟨[0, 2, 4], hm _ (by simp), by simp⟩
  · exact ⟨[3, 5], hm _ (by simp), by simp⟩
  · exact ⟨[1, 4], hm _ (by simp), by simp⟩
  · exact ⟨[3, 5], hm _ (by simp), by simp⟩
/-- the told answer -/
def outT (lines : List (List Int)) (r : List Int) : Option (List Int) × List (List Int) := (if r.length = 6 then some r else none, lines.map (left r))
theorem outT_one {lines : List (List Int)} {r l : List Int} (h : (outT lines r).1 = some l) : l = r ∧ l.length = 6 := by
  unfold outT at h
  simp only at h
  split at h
  · cases h; exact ⟨rfl, by assumption⟩
  · cases h
theorem outT_two {lines : List (List Int)} {r l : List Int} (h : l ∈ (outT lines r).2) : ∃ l' ∈ lines, (∀ p ∈ l, p ∈ l') ∧ l.length ≤ l'.length := by
  obtain ⟨l', hl', rfl⟩ := List.mem_map.mp h
  exact ⟨l', hl', fun p hp => (mem_left.mp hp).1, List.length_filter_le _ _⟩
/-- the merge of the writings is the told answer, named -/
theorem named_c3 {ns : List Int} {lines : List (List Int)} {g : Pk → List UInt8} (hg : ∀ p q, PkOk p → PkOk q → g p = g q → p = q) (h6 : ∀ l ∈ lines, In6 l) {n : Nat} {out : Option (List Int) × List (List Int)} (hc : c3f n lines [] = some out)
    (h1 : ∀ l, out.1 = some l → In6 l) (h2 : ∀ l ∈ out.2, In6 l) :
    c3f n (lines.map fun l => (l.map (pat ns)).map g) [] = some (named out ((pks ns).map g)) := by
  have h := c3_map (u := fun p => 0 ≤ p ∧ p < 6) (f := fun p => g (pat ns p)) (fun x y hx hy e => pat_inj hx hy (hg _ _ (pat_ok _ _) (pat_ok _ _) e)) n lines [] (fun l hl p hp => h6 l hl p hp)
  rw [hc] at h
  have e : (lines.map fun l => (l.map (pat ns)).map g) = lines.map (·.map fun p => g (pat ns p)) := List.map_congr_left fun l _ => by rw [List.map_map]; rfl
  rw [e]
  rw [List.map_nil] at h
  rw [h]
  show some _ = some _
  congr 1
  unfold named
  refine Prod.ext ?_ ?_
  · show out.1.map _ = out.1.map _
    cases ho : out.1 with
    | none => rfl
    | some l =>
      show some _ = some _
      congr 1
      exact List.map_congr_left fun p hp => (nm_pks (h1 l ho p hp)).symm
  · exact List.map_congr_left fun l hl => List.map_congr_left fun p hp => (nm_pks (h2 l hl p hp)).symm
theorem range_lines {β : Type} {F : List Int → β} (lines : List (List Int)) : (List.range lines.length).map (fun k => F (lines.getD k [])) = lines.map F := by
  refine List.ext_getElem? fun k => ?_
  rw [List.getElem?_map, List.getElem?_map]
  by_cases h : k < lines.length
  · rw [List.getElem?_range h, List.getElem?_eq_getElem h]
    show some (F (lines.getD k [])) = some _
    rw [List.getD_eq_getElem?_getD, List.getElem?_eq_getElem h]; rfl
  · rw [List.getElem?_eq_none (by simpa using h), List.getElem?_eq_none (by omega)]; rfl
end Mine
end

section
open PySem PySem.W PyProof.Rows
set_option maxRecDepth 100000
namespace Mine
set_option linter.unusedVariables false
set_option linter.unusedSimpArgs false
theorem Frame.retype {X : XS} {env : Env} {ρ : List (Str × Bd)} {h : Heap} {n : Str} {b b' : Bd} (x : Frame X env ρ h) (hv : ρ.lookup n = some b) (hr : ∀ v, b.rel X h v → b'.rel X h v) : Frame X env ((n, b') :: ρ) h := by
  obtain ⟨mm, hm, hv'⟩ := x.vars
  refine ⟨x.kind, x.gl, x.bi, x.xl, ⟨mm, hm, fun y c e => ?_⟩, x.cells, x.apart⟩
  simp only [List.lookup_cons] at e
  cases q : y == n with
  | true =>
    simp only [q] at e
    have hn : y = n := by simpa using q
    subst hn
    cases e
    obtain ⟨v, h1, h2⟩ := hv' y _ hv
    exact ⟨v, hr v h1, h2⟩
  | false =>
    simp only [q] at e
    exact hv' y c e
abbrev Sx.aa {H0 : Heap} {Z : XS} {s₀ s : Shared} {g : Γ} (_ : Sx H0 Z s₀ g s) : Around := g.A
abbrev Sx.ev {H0 : Heap} {Z : XS} {s₀ s : Shared} {g : Γ} (_ : Sx H0 Z s₀ g s) : Env := g.env
def hT0 : Hp := ⟨fun h => h.get? 201 = some (tabObj #[]), fun x k => k _ _ x⟩
theorem all2_maps {R : (Int × Value) → (Int × List Int) → Prop} {f : Int → Value} {g : Int → List Int} : ∀ {ks : List Int}, (∀ k ∈ ks, R (k, f k) (k, g k)) → All2 (fun kv x => kv.1 = x.1 ∧ R kv x) (ks.map fun k => (k, f k)) (ks.map fun k => (k, g k))
  | [], _ => .nil
  | a :: ks, h => .cons ⟨rfl, h a (by simp)⟩ (all2_maps fun k hk => h k (by simp [hk]))
section
variable {prog : Program} {w : World} {H0 : Heap}
/-- an own list beside what else is own, read -/
theorem ev_ownL {β : Type} {u : Ty β} {g : Γ} {X' : XS} {D : Addr} {out : Str} {ys : List β} {np : Pos} (hv : g.ρ.lookup out = some (bVal (.ref D))) (hΩ : ∀ h, g.Ω.p h → (hList X' u D ys).p h) (hn : (out == ("__classdict__" : Str)) = false) (hd : (out == ("__debug__" : Str)) = false) :
    Ev prog w H0 g (fun a => X' a ∧ a ≠ D) (.Name out np) ((tList u).at ys) := by
  intro s c E
  refine (ev_var hv hn hd).use c fun v s1 k1 c1 r1 => ⟨k1, ?_⟩
  obtain rfl : v = .ref D := r1
  obtain ⟨vs, l1, r1⟩ := hΩ _ c1.om
  exact ⟨D, vs, rfl, fun q => q.2 rfl, l1.isList, r1.imp fun _ _ q => u.mono q fun b o n e => ⟨fun z => n z.1, e⟩⟩
theorem fn_told (W : W0 (hd.heap_1 w.params) H0) {A : Around} {s : Shared} {X : XS} {vl : Value} {lines : List (List Int)} {Rs : Result → Shared → Prop}
    (hB : ∃ mg, H0.Ns mainGlobals mg ∧ H0.BuiltinsAt mg 201) (ok : OkA A 3) (wd : Wd H0 X s.heap) (lv : Live X s.heap) (hl : (tList (tList tInt)).rel X s.heap vl lines) (hX201 : X 201) (h201 : s.heap.get? 201 = some (tabObj #[])) (hz : lines.length ≤ 100) (hz2 : ∀ l ∈ lines, l.length ≤ 100)
    (h6 : ∀ l ∈ lines, In6 l) (hall : ∀ p : Int, 0 ≤ p → p < 6 → ∃ l ∈ lines, p ∈ l)
    (hRs : ∀ v s' out r, (∀ p ∈ r, 0 ≤ p ∧ p < 6) → out = outT lines r → c3f 7 lines [] = some out → KOff (fun a => a = 201) s s' → (∃ ps, s'.heap.get? 201 = some (tabObj ps)) → ((tTwo (tOpt (tList tInt)) (tList (tList tInt))).at out).rel X s'.heap v → Rs (.ok (.ret v)) s') :
    codeAny (model prog w) A (.call (.ref 204) ⟨[vl], []⟩) Rs s := by
  refine fn_introG (n := 2) (ρ := [("lines", (tList (tList tInt)).at lines)]) W rfl rfl rfl rfl rfl ok wd lv [("lines", vl)] (BindsTo.of_eq rfl) (.cons ⟨rfl, hl⟩ .nil) ?_ rfl rfl rfl
  intro L X' s' hX' hX2 hL kp sx
  have lv' := sx.cx.live
  have sx0 := sx
  have faX0 : ∀ a, Fa sx.ev a → X' a := fun a fa => sx.cx.fr.fa_x fa
  refine st_dicts2 W sx (.inr ⟨rfl, rfl⟩) (.inr ⟨rfl, rfl⟩) rfl rfl rfl rfl fun DF DA s1 fF fA nFA sysF sysA nFF nFDA hZF hZA sx => ?_
  have hzs : ∀ a, Fa sx.ev a → s.heap.get? a = none := fun a fa => fa.elim (fun q => q ▸ (sx.wl.resolve_left id)) fun ⟨n, q⟩ => (sx.wc n a q).resolve_left id
  have lv1 := sx.cx.live
  have lvX' : ∀ {h : Heap}, Live (xI (xI X' DF) DA) h → Live X' h := fun l a q => l a (.inl (.inl q))
  refine st_forX sx (ev_range1 W (ev_lenL W (ev_var rfl rfl rfl) (by omega) rfl (fun _ => rfl) (fun _ => rfl)) rfl (fun _ => rfl) (fun _ => rfl)) (iter_range1 (n := lines.length) (by omega))
    (fun i => [("ahead", bVal (.ref DA)), ("first", bVal (.ref DF)), ("lines", (tList (tList tInt)).at lines)]) (fun W X n => hTL prog w sx.ev DF DA lines W X n 0) (fun a => Fa sx.ev a ∨ a = DF ∨ a = DA) ?_ ?_ ?_ ?_ ?_ ?_ ?_ (.inl rfl) ?_ ?_ (fun _ => rfl) rfl
  · exact ⟨rfl, rfl, rfl, trivial⟩
  · exact fun W X₁ _ _ h om => ⟨TD0, fun _ => 0, TInv.start lines, ⟨[], om.1, .nil⟩, om.2, (fun k hk => absurd hk (List.not_mem_nil)), (fun k hk => absurd hk (List.not_mem_nil)), fun k hk => absurd hk (List.not_mem_nil)⟩
  · exact fun W X n => hTL_off nFF nFDA
  · exact fun W X I n => hTL_it
  · rintro a (fa | rfl | rfl)
    · exact sx.cx.fr.fa_x fa
    · exact .inl (.inr rfl)
    · exact .inr rfl
  · rintro a (fa | rfl | rfl)
    · exact .inr (hzs a fa)
    · exact hZF
    · exact hZA
  · exact fun a fa => .inl fa
  · intro n bi Wo X₁ s₁ s' hbi hZW hWZ hfr hX1 sx
    rw [List.getElem?_map] at hbi
    obtain ⟨n', hn', rfl⟩ := Option.map_eq_some_iff.mp hbi
    obtain ⟨hnl, hn'⟩ := List.getElem?_eq_some_iff.mp hn'
    rw [List.getElem_range] at hn'
    subst hn'
    rw [List.length_range] at hnl
    obtain ⟨l, hln⟩ : ∃ l, lines[n]? = some l := ⟨_, List.getElem?_eq_getElem hnl⟩
    have hlz := hz2 l (List.mem_of_getElem? hln)
    have offO : ∀ {W X : XS} {j : Nat}, (hTL prog w sx.ev DF DA lines W X n j).StOff (Fa sx.ev) := hTL_off nFF nFDA
    refine st_assign (b := (tList tInt).at l) sx (ev_itemL (x := l) (ev_var rfl rfl rfl) (ev_var rfl rfl rfl) (by omega) (by omega) hln (fun _ _ => rfl) (fun _ _ => rfl)) offO (.inl rfl) rfl fun s2 sx => ?_
    have faW : ∀ a, Fa sx.ev a → Wo a := fun a fa => hZW a (.inl fa)
    refine st_forX sx (ev_range1 W (ev_lenL W (ev_var rfl rfl rfl) (by omega) rfl (fun _ => rfl) (fun _ => rfl)) rfl (fun _ => rfl) (fun _ => rfl)) (iter_range1 (n := l.length) (by omega))
      (fun j => [("line", (tList tInt).at l), ("place", tInt.at (n : Int)), ("ahead", bVal (.ref DA)), ("first", bVal (.ref DF)), ("lines", (tList (tList tInt)).at lines)]) (fun W X j => hTL prog w sx.ev DF DA lines W X n j) (fun a => X₁ a ∧ Wo a) ?_ ?_ ?_ ?_ ?_ ?_ ?_ (.inl rfl) ?_ ?_ (fun _ => rfl) rfl
    · exact ⟨rfl, rfl, rfl, rfl, rfl, trivial⟩
    · exact fun W X₂ h1 h2 h ⟨d, ad, inv, om⟩ => ⟨d, ad, inv, hTG_sets om fun a q1 q2 _ => ⟨h1 a ⟨q2, q1⟩, h2 a q2⟩⟩
    · exact fun W X j => offO
    · exact fun W X I j => hTL_it
    · exact fun a q => q.1
    · exact fun a q => .inl q.2
    · exact fun a fa => ⟨sx.cx.fr.fa_x fa, faW a fa⟩
    · intro j bj Wi X₂ s₂ s'' hbj hZWi hWZi hfri hX2' sx
      rw [List.getElem?_map] at hbj
      obtain ⟨j', hj', rfl⟩ := Option.map_eq_some_iff.mp hbj
      obtain ⟨hjl, hj'⟩ := List.getElem?_eq_some_iff.mp hj'
      rw [List.getElem_range] at hj'
      subst hj'
      rw [List.length_range] at hjl
      obtain ⟨p, hp⟩ : ∃ p, l[j]? = some p := ⟨_, List.getElem?_eq_getElem hjl⟩
      obtain ⟨d, ad, inv, om⟩ := sx.cx.om
      replace sx := sx.omAt om
      have hszk := inv.szk
      have e100 : n * 100 ≤ 10000 := by omega
      have XF : X₂ DF := hX2' _ (hX1 _ (.inl (.inr rfl)))
      have XA : X₂ DA := hX2' _ (hX1 _ (.inr rfl))
      have WF : Wi DF := hZWi _ ⟨hX1 _ (.inl (.inr rfl)), hZW _ (.inr (.inl rfl))⟩
      have WA : Wi DA := hZWi _ ⟨hX1 _ (.inr rfl), hZW _ (.inr (.inr rfl))⟩
      have hjp : l[(j : Int).toNat]? = some p := by rw [Int.toNat_natCast]; exact hp
      have offG : ∀ {X : XS} {xf : List (Int × Int)} {ka : List Int} {ad : Int → Addr} {ah : Int → List Int}, (hTG prog w sx.ev Wi X DF DA xf ka ad ah).StOff (Fa sx.ev) := hTG_off nFF nFDA
      refine st_seq (fun s3 => ∃ X₃ d1 ad1, (∀ a, X₂ a → X₃ a) ∧ (∀ a, X₃ a → X₂ a ∨ Wi a) ∧ p ∈ d1.ks ∧ TInv lines n (j + 1) (tOld d1 l j p) ∧ (d1.ah p).length ≤ 1000000 ∧
        Sx H0 Wi s₂ ⟨sx.aa, X₃, sx.ev, [("i", tInt.at (j : Int)), ("line", (tList tInt).at l), ("place", tInt.at (n : Int)), ("ahead", bVal (.ref DA)), ("first", bVal (.ref DF)), ("lines", (tList (tList tInt)).at lines)], hTG prog w sx.ev Wi X₃ DF DA (xfT d1) d1.ks ad1 d1.ah, 2⟩ s3) ?_ ?_
      · refine st_if sx (ts_cmp (ev_itemL (x := p) (ev_var rfl rfl rfl) (ev_var rfl rfl rfl) (by omega) (by omega) hjp (fun _ _ => rfl) (fun _ _ => rfl)) (ev_ownD (D := DF) (t := tInt) (xs := xfT d) rfl rfl rfl fun h om => let ⟨kf, dd, r⟩ := om.1; ⟨DF, kf, rfl, fun q => q, sysF, dd, r⟩) op_notInD rfl) (fun hc s sx => ?_) fun hc s sx => ?_
        · have hm : p ∉ d.ks := fun q => by rw [lookup_map, if_pos q] at hc; cases hc
          refine st_dictSet (D := DF) (k := p) (b := tInt.at (n : Int)) (Ω' := hTG prog w sx.ev Wi X₂ DF DA (xfT d ++ [(p, (n : Int))]) d.ks ad d.ah) sx (ev_var rfl rfl rfl) rfl rfl rfl (ev_itemL (x := p) (ev_var rfl rfl rfl) (ev_var rfl rfl rfl) (by omega) (by omega) hjp (fun _ _ => rfl) (fun _ _ => rfl)) XF nFF (.inl WF) (fun h v om hv => hTG_setF hm nFA om (by omega) hv) rfl fun s sx => ?_
          refine st_dictSetNil (Y2 := nX) (D := DA) (k := p) (Ω' := fun L => hTG prog w sx.ev Wi (xI X₂ L) DF DA (xfT d ++ [(p, (n : Int))]) (d.ks ++ [p]) (fun k => if k = p then L else ad k) (fun k => if k = p then [] else d.ah k)) sx rfl rfl rfl (fun X Ω => (ev_itemL (x := p) (ev_var rfl rfl rfl) (ev_var rfl rfl rfl) (by omega) (by omega) hjp (fun _ _ => rfl) (fun _ _ => rfl)).weak fun a q => q.elim) XA nFDA (.inl WA)
            (fun L h nXL fL nFL om hL => hTG_setA hm nFA om (by omega) nXL (hfri s sx.k0 (fun a q => sx.cx.live a (hX2' a q)) L fL) nFL hL) rfl fun L s' fL nFL hZL sx' => ?_
          refine st_nil (st_nil ⟨rfl, xI X₂ L, tNew d n p, fun k => if k = p then L else ad k, fun a q => .inl q, ?_, ?_, inv.new hln hp hlz hm, ?_, ?_⟩)
          · rintro a (q | q)
            · exact .inl q
            · exact .inr (q ▸ hfri s sx.k0 (fun a q => sx.cx.live a (hX2' a q)) L fL)
          · exact List.mem_append_right _ (by simp)
          · show (if p = p then ([] : List Int) else d.ah p).length ≤ 1000000
            rw [if_pos rfl]; simp
          · rw [xfT_new hm]
            exact sx'
        · have hm : p ∈ d.ks := by
            by_cases q : p ∈ d.ks
            · exact q
            · rw [lookup_map, if_neg q] at hc; cases hc
          have := inv.sz p hm
          exact st_nil (st_nil ⟨rfl, X₂, d, ad, fun a q => q, fun a q => .inl q, hm, inv.old hln hp hlz hm, by omega, sx⟩)
      · rintro s3 ⟨X₃, d1, ad1, hX3, hX3', hm1, inv1, hsz1, sx⟩
        refine st_extend (L := ad1 p) (t := tInt) (Ω' := hTG prog w sx.ev Wi X₃ DF DA (xfT d1) d1.ks ad1 fun k => if k = p then d1.ah p ++ l.take j else d1.ah k) (Y := nX) sx (ev_itemOwn (D := DA) (k := p) (b := bVal (.ref (ad1 p))) rfl rfl rfl (ev_itemL (x := p) (ev_var rfl rfl rfl) (ev_var rfl rfl rfl) (by omega) (by omega) hjp (fun _ _ => rfl) (fun _ _ => rfl)) (fun h om => ⟨_, _, om.2.1, valueAt_map hm1, rfl⟩) (fun _ _ => rfl) (fun _ _ => rfl))
          (ev_slicePl (ev_var rfl rfl rfl) evP_none (evP_some (ev_var rfl rfl rfl)) (by omega) (fun _ _ => rfl)) (sx.cx.om.2.2.2.1 p hm1).2.1 (sx.cx.om.2.2.2.1 p hm1).2.2 (.inl (sx.cx.om.2.2.2.1 p hm1).1) (Nat.le_trans (pickL_le _ _ _ _) (by omega)) (fun h om => ?_) (fun _ => rfl) rfl rfl (fun _ => rfl) (fun _ => rfl) rfl rfl fun s sx => ?_
        · obtain ⟨vs, hl, hr⟩ := om.2.2.1 p hm1
          refine ⟨vs, hl, by rw [hr.length]; exact hsz1, fun us h' hus hl' sb => ?_⟩
          rw [pickL_upto] at hus
          exact hTG_ext hm1 om hr hus hl hl' sb
        · exact st_nil ⟨.inl rfl, X₃, hX3, hX3', (sx.omAt (Ω' := hTL prog w sx.ev DF DA lines Wi X₃ n (j + 1)) ⟨tOld d1 l j p, ad1, inv1, sx.cx.om⟩).sub ⟨rfl, rfl, rfl, rfl, rfl, trivial⟩⟩
    · intro Wi X₂ Xe I s3 hXe hXe2 hWZi nWI hXeq sx3
      rw [List.length_map, List.length_range] at sx3
      have hfresh : ∀ a, s2.heap.get? a = none → Wo a := fun a e => hfr s2 sx.k0 (fun a q => sx.cx.live a (hX1 a q)) a e
      refine st_nil ⟨.inl rfl, Xe, hXe, fun a q => (hXe2 a q).imp id (hfresh a), ?_⟩
      obtain ⟨d, ad, inv, om⟩ := sx3.cx.om
      refine (sx3.omAt (Ω' := hTL prog w sx.ev DF DA lines Wo Xe (n + 1) 0) ⟨d, ad, inv.line hln hlz, hTG_sets om fun a q1 q2 _ => ⟨(hWZi a q1).elim (fun q => q.2) (hfresh a), (hXeq a).mpr ⟨q2, fun e => nWI (e ▸ q1)⟩⟩⟩).sub ⟨rfl, rfl, rfl, trivial⟩
  · intro Wo X₁ Xe I s2 hXe hXe2 hWZ nWI hXeq sx
    have hXe2' : ∀ a, X' a → Xe a := fun a q => hXe a (.inl (.inl q))
    rw [List.length_map, List.length_range] at sx
    obtain ⟨d, ad, inv, om⟩ := sx.cx.om
    have h201' : s2.heap.get? 201 = some (tabObj #[]) := sx.k0.get (fun q => q) h201
    have nF201 : ¬ Fa sx0.ev 201 := sx.cx.fr.not_fields h201' rfl
    have sxP : Sx H0 (fun a => a = 201) s ⟨sx0.aa, X', sx0.ev, [("ahead", (tDict prog w (tList tInt)).at (d.ks.map fun k => (k, d.ah k))), ("first", (tDict prog w tInt).at (xfT d)), ("lines", (tList (tList tInt)).at lines)], hT0, 2⟩ s2 := by
      have fr1 := sx.cx.fr.narrow hXe2' faX0
      refine ⟨⟨((fr1.retype (n := "first") (b' := (tDict prog w tInt).at (xfT d)) rfl ?_).retype (n := "ahead") (b' := (tDict prog w (tList tInt)).at (d.ks.map fun k => (k, d.ah k))) rfl ?_).sub (SubM.get ⟨rfl, rfl, rfl, trivial⟩), ⟨fun b o e => ⟨(sx.cx.wd.stay b o e).1, fun q => (sx.cx.wd.stay b o e).2 (hXe2' b q)⟩⟩, fun a q => sx.cx.live a (hXe2' a q), h201', sx.cx.ok⟩, sx.k0.mono (fun _ q => q.elim), sx.wl.imp (fun q => q.elim) id, fun n c e => (sx.wc n c e).imp (fun q => q.elim) id⟩
      · rintro v rfl
        obtain ⟨kf, dF, r⟩ := om.1
        exact ⟨DF, kf, rfl, lv'.none fF, sysF, dF, r⟩
      · rintro v rfl
        refine ⟨DA, _, rfl, lv'.none fA, sysA, om.2.1, all2_maps fun k hk => ?_⟩
        obtain ⟨vs, ⟨n, e⟩, r⟩ := om.2.2.1 k hk
        refine ⟨ad k, vs, rfl, fun q => ?_, ⟨_, e, rfl, n, rfl⟩, r⟩
        obtain ⟨kf, dF, _⟩ := om.1
        obtain ⟨hW, _, hFk⟩ := om.2.2.2.1 k hk
        rcases hWZ _ hW with (z | z | z) | z
        · exact hFk z
        · exact plain_ne ⟨n, e⟩ dF z
        · exact plain_ne ⟨n, e⟩ om.2.1 z
        · obtain ⟨o, e'⟩ := lv1 _ (.inl (.inl q))
          rw [z] at e'; cases e'
    have xX201 : X' 201 := hX' 201 hX201
    refine st_newlist2 tInt sxP (fun h h' k e => k _ _ nF201 e) (.inr ⟨rfl, rfl⟩) fun R s3 fR hZR sx nFR => ?_
    have nR201 : R ≠ 201 := fun q => by rw [q, h201'] at fR; cases fR
    have nXR : ¬ X' R := fun q => by obtain ⟨o, e⟩ := sxP.cx.live R q; rw [fR] at e; cases e
    have sxR : Sx H0 (fun a => a = 201) s ⟨sx0.aa, xI X' R, sx0.ev, [("ready", bVal (.ref R)), ("ahead", (tDict prog w (tList tInt)).at (d.ks.map fun k => (k, d.ah k))), ("first", (tDict prog w tInt).at (xfT d)), ("lines", (tList (tList tInt)).at lines)], hAnd (hList (xI X' R) tInt R []) (hTab sx0.ev R (sx0.ev.qual ++ "<lambda>") ⟨257, 35, 257, 53⟩), 2⟩ s3 := sx.om fun h om => ⟨om.1, .inl om.2⟩
    obtain ⟨r, htl, hrnd, hru, hc3⟩ := told_c3 inv (u := [0, 1, 2, 3, 4, 5]) (by decide) (fun l hl p hp => by
      obtain ⟨g1, g2⟩ := h6 l hl p hp
      have : p = 0 ∨ p = 1 ∨ p = 2 ∨ p = 3 ∨ p = 4 ∨ p = 5 := by omega
      simpa using this) (fun p hp => hall p (by simp at hp; omega) (by simp at hp; omega)) (n := 7) (by decide)
    have hksz : d.ks.length ≤ 10000 := by have := inv.szk; omega
    have hahz : ∀ k ∈ d.ks, (d.ah k).length ≤ 1000000 := fun k hk => by have := inv.sz k hk; omega
    refine wpAny_execs_cons (wpAny_While ?_)
    refine codeAny_whileLoop (fun k s4 => ∃ ready, tlf lines (freeT d) (selT (fstOf lines)) k ready = some r ∧ ready.length + k ≤ 7 ∧
      Sx H0 (fun a => a = 201) s ⟨sx0.aa, xI X' R, sx0.ev, [("ready", bVal (.ref R)), ("ahead", (tDict prog w (tList tInt)).at (d.ks.map fun k => (k, d.ah k))), ("first", (tDict prog w tInt).at (xfT d)), ("lines", (tList (tList tInt)).at lines)], hAnd (hList (xI X' R) tInt R ready) (hTab sx0.ev R (sx0.ev.qual ++ "<lambda>") ⟨257, 35, 257, 53⟩), 2⟩ s4) ?_ 7 ⟨[], htl, by simp, sxR⟩
    clear htl sxR sx
    rintro k s4 ⟨ready, htl, hlen, sx⟩
    cases k with
    | zero => cases htl
    | succ k =>
    unfold tlf at htl
    have faXR : ∀ a, Fa sx0.ev a → xI X' R a := fun a fa => .inl (faX0 a fa)
    have offL : ∀ {ys : List Int}, (hList (xI X' R) tInt R ys).StOff (Fa sx0.ev) := hList_off nFR faXR
    have offT : (hTab sx0.ev R (sx0.ev.qual ++ "<lambda>") ⟨257, 35, 257, 53⟩).StOff (Fa sx0.ev) := hTab_off nF201 fun c' h _ => h
    refine Ts.use (ts_val ev_bool tr_bool fun _ _ => rfl) sx.cx fun s5 k5 c5 => ?_
    simp only [if_true]
    replace sx := sx.keep k5
    refine st_comp (u := tInt) (xs := xfT d) (bnd := fun x => tInt.at x.1) (p := fun z => !ready.contains z.1 && (((d.ah z.1).map fun q => ready.contains q).all id && true)) (f := fun x => x.1) sx (ev_var rfl rfl rfl) iter_dict (compOk_of rfl rfl rfl rfl rfl) (by simp; omega)
      (fun z hz X'' C hX'' => ?_) (fun _ => rfl) rfl (hAnd_off offL offT) (.inl rfl) fun s6 sx => ?_
    · obtain ⟨kk, hkk, rfl⟩ := List.mem_map.mp hz
      refine ⟨tsl_one (ts_and (ts_cmp (ev_var rfl rfl rfl) (ev_ownL (u := tInt) (X' := xI X' R) (D := R) (ys := ready) rfl (fun h om => om.1) rfl rfl) op_notInInt rfl) fun _ => ts_and (ts_val (ev_callB (Y2 := X'') (r := tBool.at _) (ev_boot W rfl nb_all rfl (by decide) rfl)
        (evs_cons (ev_compA (g := gC _ _ _ _ _ _) (u := tBool) (f := fun q => ready.contains q) (ev_itemD (t := tList tInt) (xs := d.ks.map fun k => (k, d.ah k)) (k := kk) (x := d.ah kk) (ev_var rfl rfl rfl) (ev_var rfl rfl rfl) (by rw [lookup_map, if_pos hkk]) (fun _ _ => rfl) (fun _ _ => rfl)) iter_list (compOk_of rfl rfl rfl rfl rfl) (by have := hahz kk hkk; omega)
          (fun q hq X3 C3 hX3 => ev_cmp (ev_var rfl rfl rfl) (ev_ownL (u := tInt) (X' := xI X' R) (D := R) (ys := ready) rfl (fun h om => om.1) rfl rfl) op_inInt rfl) (fun _ => rfl)) evs_nil fun _ => rfl) (fun s vs E c h => cb_all c.ok.hh h) (fun _ => rfl) (fun _ => rfl)) tr_bool fun _ _ => rfl) fun _ => ts_andNil), fun _ => ev_var rfl rfl rfl⟩
    rw [free_eq] at sx
    have hfz : (freeT d ready).length ≤ 10000 := Nat.le_trans (List.length_filter_le _ _) hksz
    refine st_if sx (ts_not (ts_val (ev_var rfl rfl rfl) (tr_list (by omega)) fun _ _ => rfl)) (fun hc s7 sx => ?_) fun hc s7 sx => st_nil ?_
    · have hnil : freeT d ready = [] := by cases hq : freeT d ready with | nil => rfl | cons a b => rw [hq] at hc; simp at hc
      rw [if_pos hnil] at htl
      obtain rfl := Option.some.inj htl
      refine st_break ?_
      have hrz : ready.length ≤ 7 := by omega
      have sx := sx.sub (ρ' := [("ready", bVal (.ref R)), ("lines", (tList (tList tInt)).at lines)]) ⟨rfl, rfl, trivial⟩
      refine st_compA (u := tList tInt) (f := left ready) sx (ev_var rfl rfl rfl) iter_list (compOk_of rfl rfl rfl rfl rfl) (by omega) (fun l hl X'' C hX'' => ?_) (fun _ => rfl) rfl (hAnd_off offL offT) (.inl rfl) fun s8 sx => ?_
      · refine (ev_comp (g := gC _ _ _ _ _ _) (u := tInt) (bnd := tInt.at) (xs := l) (p := fun p => !ready.contains p) (f := id) (ev_var rfl rfl rfl) iter_list (compOk_of rfl rfl rfl rfl rfl) (by have := hz2 l hl; omega) (fun q hq X3 C3 hX3 => ⟨tsl_one (ts_cmp (ev_var rfl rfl rfl) (ev_ownL (u := tInt) (X' := xI X' R) (D := R) (ys := ready) rfl (fun _ => And.left) rfl rfl) op_notInInt rfl), fun _ => ev_var rfl rfl rfl⟩) (fun _ => rfl)).cast ?_
        rw [List.map_id]; rfl
      have sx := ((sx.om (Ω' := hList (xI X' R) tInt R ready) fun h om => om.1).publish (out := "ready") X' (fun a q => .inl q) faX0 nXR (fun a q => .inl q) rfl).omAt sx.cx.om.2
      refine wpAny_execs_cons (wpAny_Return_some (Ev.use (ev_list2 (t := tOpt (tList tInt)) (u := tList (tList tInt)) (x := if ready.length = ([0, 1, 2, 3, 4, 5] : List Int).length then some ready else none) (y := lines.map (left ready))
        (ev_ifexp (c := decide ((ready.length : Int) = 6)) (ts_cmp (ev_lenL W (ev_var rfl rfl rfl) (by omega) rfl (fun _ => rfl) (fun _ => rfl)) ev_int op_eq rfl) (fun h => (ev_var rfl rfl rfl).cast (b := (tList tInt).at ready) ?_) (fun h => ev_none.cast ?_)) (ev_var rfl rfl rfl) (fun _ => rfl) (fun _ => rfl)) sx.cx fun v s9 k9 c9 r9 => ⟨_, rfl, hRs v s9 (outT lines ready) ready (fun p hp => by have := hru p hp; simp at this; omega) rfl hc3 (sx.keep k9).k0 (c9.om.elim (fun q => ⟨_, q⟩) fun ⟨_, _, _, q, _⟩ => ⟨_, q⟩) ?_⟩))
      · have h := of_decide_eq_true h
        rw [if_pos (by show ready.length = 6; omega)]; rfl
      · have h := of_decide_eq_false h
        rw [if_neg (by show ¬ ready.length = 6; omega)]; rfl
      · exact (tTwo (tOpt (tList tInt)) (tList (tList tInt))).mono r9 fun b o nb e => ⟨fun q => nb (hX' b q), e⟩
    · have hne : freeT d ready ≠ [] := by intro q; rw [q] at hc; simp at hc
      rw [if_neg hne] at htl
      have hsub : ∀ p ∈ freeT d ready, p ∈ d.ks := fun p hp => (List.mem_filter.mp hp).1
      refine st_appendS (y := selT (fstOf lines) (freeT d ready)) sx rfl rfl rfl (fun s8 sx8 E' => ?_) (.inr rfl) nFR hZR (hTab_off (fun q => nR201 q.symm) fun c' _ h => h) (by omega) (fun _ => rfl) rfl rfl rfl fun s8 sx => st_nil ⟨k, Nat.lt_succ_self k, _, htl, by simp; omega, sx.sub ⟨rfl, rfl, rfl, rfl, trivial⟩⟩
      refine min_lambda (xs := xfT d) W hB (codeHd_of_K W.kin (by kernel_rfl)) sx8 (Nat.le_refl _) rfl (.inl xX201) nF201 (.inl rfl) (hList_off (fun q => nR201 q) fun a (q : a = 201) => .inl (by rw [q]; exact xX201)) offL (fun s' sx' => let ⟨vs, ⟨o, _, e, _⟩, _⟩ := sx'.cx.om.1; ⟨o, e⟩) rfl rfl nb_min rfl rfl rfl rfl rfl rfl hne (fun p hp => by
        rw [lookup_map, if_pos (hsub p hp), inv.fst_end (hsub p hp)]) rfl rfl rfl rfl rfl (fun cl pm c' ctv k tk => rfl) rfl rfl rfl rfl rfl rfl rfl rfl
end
end Mine
end

section
open PySem PySem.W PyProof.Rows
set_option maxRecDepth 100000
namespace Mine
set_option linter.unusedVariables false
set_option linter.unusedSimpArgs false
/-- the code's table, grown or not -/
def hGr : Hp := ⟨fun h => ∃ ps, h.get? 201 = some (tabObj ps), fun ⟨ps, e⟩ k => ⟨ps, k _ _ e⟩⟩
theorem ro_of : ∀ {as : List Addr} {xss : List BRow}, as.Nodup → as.length = xss.length → as.map (fun a => ((as.zip xss).lookup a).getD []) = xss
  | [], [], _, _ => rfl
  | a :: as, x :: xss, hn, hl => by
    obtain ⟨h1, h2⟩ := List.nodup_cons.mp hn
    have ih := ro_of (as := as) (xss := xss) h2 (by simpa using hl)
    rw [List.map_cons, List.zip_cons_cons]
    congr 1
    · simp [List.lookup_cons]
    · rw [show as.map (fun b => (((a, x) :: as.zip xss).lookup b).getD []) = as.map (fun b => ((as.zip xss).lookup b).getD []) from List.map_congr_left fun b hb => ?_, ih]
      have : (b == a) = false := by simpa using fun e : b = a => h1 (e ▸ hb)
      rw [List.lookup_cons, this]
theorem hRows_of {X : XS} {h : Heap} {ro : Addr → BRow} : ∀ {as : List Addr}, All2 (fun v z => (tList tBytes).rel X h v z) (as.map Value.ref) (as.map ro) → (hRows as ro).p h ∧ ∀ a ∈ as, ¬ X a
  | [], _ => ⟨fun a ha => absurd ha (List.not_mem_nil), fun a ha => absurd ha (List.not_mem_nil)⟩
  | a :: as, .cons ⟨a', vs, e, n, l, r⟩ tl => by
    cases e
    obtain ⟨i1, i2⟩ := hRows_of tl
    refine ⟨fun b hb => ?_, fun b hb => ?_⟩
    · rcases List.mem_cons.mp hb with rfl | hb
      · exact ⟨vs, l, r⟩
      · exact i1 b hb
    · rcases List.mem_cons.mp hb with rfl | hb
      · exact n
      · exact i2 b hb
section
variable {prog : Program} {w : World} {H0 : Heap} {Z X : XS} {s₀ s : Shared} {A : Around} {env : Env} {ρ : List (Str × Bd)} {Ω : Hp} {m : Nat} {pos p : Pos} {e : Expr} {E : Value → Shared → Prop} {Q : Flow → Shared → Prop} {rest : List Stmt}
/-- n = _law_merge(rows made for it) -/
theorem st_merge (W : W0 (hd.heap_1 w.params) H0) {n f : Str} {np fp cpos : Pos} {xss : List BRow} {out : Option BRow × List BRow} {Y : XS} (sx : Sx H0 Z s₀ ⟨A, X, env, ρ, Ω, m⟩ s) (hΩ : Ω.StOff (Fa env)) (hf : Ev prog w H0 ⟨A, X, env, ρ, Ω, m⟩ Y (.Name f fp) (bVal (.ref 199)))
    (he : EvRows prog w H0 ⟨A, X, env, ρ, Ω, m⟩ tBytes e xss) (hm : 2 ≤ m) (hfr : A.frames = some [env]) (hframe : env.frame = some env.locals) (hz : xss.length ≤ 1000) (hz2 : ∀ r ∈ xss, r.length ≤ 1000) {N : Nat} (hN : N ≤ 1000) (hc : c3f N xss [] = some out)
    (hst : ∀ env, starEach [e] env = (false, eval e env) :: starEach [] env) (hk : env.kindOf n = some .local ∨ (env.kindOf n = some .cell ∧ (env.cells.lookup n).isSome = true)) (hs : swapsWith (.Call (.Name f fp) [e] [] cpos) (some (.Name n np)) pos.line env = pure false)
    (k : ∀ s', Sx H0 Z s₀ ⟨A, X, env, (n, MRes.at out) :: ρ, Ω, m⟩ s' → wpAny (model prog w) A (execs rest env) Q E s') :
    wpAny (model prog w) A (execs (.Assign [.Name n np] (.Call (.Name f fp) [e] [] cpos) pos :: rest) env) Q E s := by
  refine wpAny_execs_cons (wpAny_Assign_Name (wpAny_Call_Name_kw (hf.use sx.cx fun v s1 k1 c1 r1 => ?_)) hs)
  obtain rfl : v = .ref 199 := r1
  obtain ⟨og, fd, hg, hgd⟩ : ∃ o fd, H0.get? 199 = some o ∧ o.data = .func fd := ⟨_, _, W.kin 199 _ rfl, rfl⟩
  refine Calls.callWith_function (o := og) (fd := fd) (evalArgs_of (g := ⟨A, X, env, ρ, Ω, m⟩) hst ?_)
  rw [hst]
  refine Calls.spliced_cons (wpAny_mono (he s1 c1 E) (fun v s2 q => Calls.spliced_nil ?_) fun _ _ q => q)
  obtain ⟨k2, R, as, rfl, fR, fas, ra⟩ := q
  have sx1 := sx.keep k1
  have sx2 := sx1.keep k2
  refine ⟨⟨sx2.cx.wd.keep _ _ hg, hgd⟩, ?_⟩
  have hlen : as.length = xss.length := by have := ra.rows.length; simpa using this
  generalize hro : (fun a => ((as.zip xss).lookup a).getD []) = ro
  have hmap : as.map ro = xss := hro ▸ ro_of ra.nd hlen
  have hrr := ra.rows
  rw [← hmap] at hrr
  obtain ⟨hR, nXas⟩ := hRows_of hrr
  have hz3 : ∀ a ∈ as, (ro a).length ≤ 1000 := fun a ha => hz2 _ (by rw [← hmap]; exact List.mem_map_of_mem ha)
  obtain ⟨mm, hmm, hkl⟩ := sx1.kl hΩ
  obtain ⟨oL, es, ep, hoL, hdL, hr⟩ := id hmm
  have hoL2 := k2.keep _ _ hoL
  refine wpAny_call (fn_merge W (outer := [env]) (sx2.cx.ok.le hm) sx2.cx.wd sx2.cx.live ra.out ra.xR ra.nR ra.nd nXas (fun a ha => ?_) hR (by omega) hz3 hfr (fun env' he' => ?_) hN (by rw [hmap]; exact hc) fun v s3 ku rv => ?_)
  · cases q : H0.get? a with
    | none => rfl
    | some o =>
      have := c1.wd.keep _ _ q
      rw [fas a ha] at this; cases this
  · obtain rfl := List.mem_singleton.mp he'
    refine ⟨(by rw [sx.cx.fr.kind]; intro q; cases q), env'.locals, oL, hframe, hoL2, (fun vs q => by rw [hdL] at q; cases q), sx.cx.fr.xl⟩
  · obtain ⟨h2, t2, rfl, kk2⟩ := k2
    obtain ⟨h3, t3, rfl, ku1, ku2⟩ := ku
    have sx3 : Sx H0 Z s₀ ⟨A, X, env, ρ, Ω, m⟩ { s1 with heap := h3, toks := t3 } := by
      refine hkl _ ⟨h3, t3, rfl, ?_, fun b o nb e => ?_⟩
      · obtain ⟨sl, e3⟩ := ku2 _ oL hoL2 (fun q => nXas _ q sx.cx.fr.xl) fun vs q => by rw [hdL] at q; cases q
        exact ⟨_, es, ep, e3, hdL, hr⟩
      · refine ku1 b o (kk2 b o e) (fun q => by rw [fas b q] at e; cases e) fun q => ?_
        rw [List.filterMap_cons, hframe] at q
        rcases List.mem_cons.mp q with q | q
        · exact nb q
        · cases q
    exact store sx3 (b := MRes.at out) rv hΩ hk fun s4 sx4 _ => k s4 sx4
/-- n = _law_told(lines) -/
theorem st_told (W : W0 (hd.heap_1 w.params) H0) (hB : ∃ mg, H0.Ns mainGlobals mg ∧ H0.BuiltinsAt mg 201) {n f : Str} {np fp cpos : Pos} {lines : List (List Int)} {Y : XS} (sx : Sx H0 Z s₀ ⟨A, X, env, ρ, hT0, m⟩ s) (hf : Ev prog w H0 ⟨A, X, env, ρ, hT0, m⟩ Y (.Name f fp) (bVal (.ref 204)))
    (he : Ev prog w H0 ⟨A, X, env, ρ, hT0, m⟩ X e ((tList (tList tInt)).at lines)) (hm : 3 ≤ m) (hX201 : X 201) (hF201 : ¬ Fa env 201) (hZ201 : Z 201 ∨ s₀.heap.get? 201 = none)
    (hz : lines.length ≤ 100) (hz2 : ∀ l ∈ lines, l.length ≤ 100) (h6 : ∀ l ∈ lines, In6 l) (hall : ∀ p : Int, 0 ≤ p → p < 6 → ∃ l ∈ lines, p ∈ l)
    (hst : ∀ env, starEach [e] env = (false, eval e env) :: starEach [] env) (hk : env.kindOf n = some .local ∨ (env.kindOf n = some .cell ∧ (env.cells.lookup n).isSome = true)) (hs : swapsWith (.Call (.Name f fp) [e] [] cpos) (some (.Name n np)) pos.line env = pure false)
    (k : ∀ out r s', (∀ p ∈ r, 0 ≤ p ∧ p < 6) → out = outT lines r → c3f 7 lines [] = some out → Sx H0 Z s₀ ⟨A, X, env, (n, (tTwo (tOpt (tList tInt)) (tList (tList tInt))).at out) :: ρ, hGr, m⟩ s' → wpAny (model prog w) A (execs rest env) Q E s') :
    wpAny (model prog w) A (execs (.Assign [.Name n np] (.Call (.Name f fp) [e] [] cpos) pos :: rest) env) Q E s := by
  refine wpAny_execs_cons (wpAny_Assign_Name (wpAny_Call_Name_kw (hf.use sx.cx fun v s1 k1 c1 r1 => ?_)) hs)
  obtain rfl : v = .ref 204 := r1
  obtain ⟨og, fd, hg, hgd⟩ : ∃ o fd, H0.get? 204 = some o ∧ o.data = .func fd := ⟨_, _, W.kin 204 _ rfl, rfl⟩
  refine Calls.callWith_function (o := og) (fd := fd) (evalArgs_of (g := ⟨A, X, env, ρ, hT0, m⟩) hst ?_)
  rw [hst]
  refine Calls.spliced_cons (he.use c1 fun v s2 k2 c2 r2 => Calls.spliced_nil ?_)
  have sx2 := (sx.keep k1).keep k2
  refine ⟨⟨sx2.cx.wd.keep _ _ hg, hgd⟩, ?_⟩
  refine wpAny_call (fn_told W hB (sx2.cx.ok.le hm) sx2.cx.wd sx2.cx.live r2 hX201 sx2.cx.om hz hz2 h6 hall fun v s3 out r hr hout hc ko hp rv => ?_)
  obtain ⟨h3, t3, rfl, kq⟩ := ko
  have sx3 := sx2.turn (tk := t3) (Ω' := hGr) hX201 hF201 hZ201 (fun b o nb e => kq b o nb e) (let ⟨ps, e⟩ := hp; ⟨_, e⟩) hp
  exact store sx3 (b := (tTwo (tOpt (tList tInt)) (tList (tList tInt))).at out) rv (fun h h' kk ⟨ps, e⟩ => ⟨ps, kk _ _ hF201 e⟩) hk fun s4 sx4 _ => k out r s4 hr hout hc sx4
end
end Mine
end

section
open PySem PySem.W PyProof.Rows
set_option maxRecDepth 100000
namespace Mine
set_option linter.unusedVariables false
set_option linter.unusedSimpArgs false
section
variable {prog : Program} {w : World} {H0 : Heap} {g : Γ} {α β : Type} {t : Ty α}
theorem compOk_of' {scope : Scope} {env : Env} {x : Str} (h1 : scope.kind = .function) (h2 : decide ((scope.names.map (·.1)).Nodup) = true) (h3 : (scope.names.all fun y => y.2 != .free || (env.cells.lookup y.1).isSome) = true)
    (h4 : (scope.names.all fun y => y.2 != .free || (env.kindOf y.1 == some .cell || env.kindOf y.1 == some .free)) = true) (h5 : scope.names.lookup x = some .local ∨ scope.names.lookup x = some .cell) : CompOk scope env x := ⟨h1, of_decide_eq_true h2, h3, h4, h5⟩
theorem iter_listM {xs : List β} {f : β → α} : Iter prog w H0 g ((tList t).at (xs.map f)) (xs.map fun x => t.at (f x)) := by
  have := iter_list (prog := prog) (w := w) (H0 := H0) (g := g) (t := t) (xs := xs.map f)
  rw [List.map_map] at this
  exact this
theorem hT0_off {env : Env} (h : ¬ Fa env 201) : hT0.StOff (Fa env) := fun h' h'' k e => k _ _ h e
theorem hGr_off {env : Env} (h : ¬ Fa env 201) : hGr.StOff (Fa env) := fun h' h'' k ⟨ps, e⟩ => ⟨ps, k _ _ h e⟩
/-- the numbers of the script -/
def numsOf (script : List Int) : List Int := (pickL script none (some 8) none).map fun x => x.fmod (2 ^ (26 : Int).toNat)
theorem numsOf_len (script : List Int) : (numsOf script).length ≤ 8 := by
  unfold numsOf
  rw [List.length_map, show pickL script none (some 8) none = pickL script none (some ((8 : Nat) : Int)) none from rfl, pickL_upto, List.length_take]
  omega
def lineN (ns : List Int) (k : Nat) : List Int := (linesOf ns).getD k []
theorem lineN_get {ns : List Int} {k : Nat} (h : k < (linesOf ns).length) : (linesOf ns)[k]? = some (lineN ns k) ∧ lineN ns k ∈ linesOf ns := by
  unfold lineN
  rw [List.getD_eq_getElem?_getD, List.getElem?_eq_getElem h]
  exact ⟨rfl, List.getElem_mem h⟩
theorem lineN_mem {ns : List Int} (k : Nat) : In6 (lineN ns k) ∧ (lineN ns k).length ≤ 12 := by
  by_cases h : k < (linesOf ns).length
  · exact linesOf_mem (lineN_get h).2
  · unfold lineN
    rw [List.getD_eq_getElem?_getD, List.getElem?_eq_none (by omega)]
    exact ⟨fun p hp => absurd hp (List.not_mem_nil), by simp⟩
theorem lasts_get (k : Nat) : ([[43, 47], [45, 95], [46, 126]] : List (List UInt8))[((k : Int).fmod 3).toNat]? = some (lastOf k) := by
  rw [show ((k : Int).fmod 3) = ((k % 3 : Nat) : Int) by rw [fmod_eq _ _ (by decide)]; rfl, Int.toNat_natCast]
  unfold lastOf
  have h : k % 3 = 0 ∨ k % 3 = 1 ∨ k % 3 = 2 := by omega
  rcases h with h | h | h <;> rw [h] <;> rfl
theorem lastOf_len (k : Nat) : (lastOf k).length = 2 := by
  unfold lastOf
  split
  · rfl
  · split <;> rfl
theorem quads_map {last : List UInt8} {ns : List Int} (l : List Int) : (l.map fun p => quad last (pat ns p)).flatten = quads last (l.map (pat ns)) := by
  unfold quads; rw [List.map_map]; rfl
theorem range_get {β : Type} {F : Nat → β} {n k : Nat} (h : k < n) : ((List.range n).map F)[(k : Int).toNat]? = some (F k) := by
  rw [Int.toNat_natCast, List.getElem?_map, List.getElem?_range h]; rfl
theorem fn_law (W : W0 (hd.heap_1 w.params) H0) (hB : ∃ mg, H0.Ns mainGlobals mg ∧ H0.BuiltinsAt mg 201) {A : Around} {s : Shared} {vl : Value} {script : List Int} {Rs : Result → Shared → Prop}
    (ok : OkA A 6) (hfr : A.frames = some []) (wd : Wd H0 (fun a => a = 201) s.heap) (lv : Live (fun a => a = 201) s.heap) (h201 : s.heap.get? 201 = some (tabObj #[])) (hl : (tList tInt).rel (fun a => a = 201) s.heap vl script) (hz : script.length ≤ 1000)
    (hRs : ∀ s', KOff (fun a => a = 201) s s' → (∃ ps, s'.heap.get? 201 = some (tabObj ps)) → Rs (.ok (.ret (.bool true))) s') :
    codeAny (model prog w) A (.call (.ref 214) ⟨[vl], []⟩) Rs s := by
  refine fn_introG (n := 5) (ρ := [("script", (tList tInt).at script)]) W rfl rfl rfl rfl rfl ok wd lv [("script", vl)] (BindsTo.of_eq rfl) (.cons ⟨rfl, hl⟩ .nil) ?_ rfl rfl rfl
  intro L X' s' hX' hX2 hL kp sx
  have h201' := kp.keep _ _ h201
  have nF201 : ¬ Fa sx.ev 201 := sx.cx.fr.not_fields h201' rfl
  have xX201 : X' 201 := hX' 201 rfl
  have offT : hT0.StOff (Fa sx.ev) := hT0_off nF201
  have offG : hGr.StOff (Fa sx.ev) := hGr_off nF201
  have sx : Sx H0 (fun a => a = 201) s ⟨sx.aa, X', sx.ev, [("script", (tList tInt).at script)], hT0, 5⟩ s' := by
    have x := sx.omAt (Ω' := hT0) h201'
    exact ⟨x.cx, x.k0.mono fun _ q => q.elim, x.wl.imp (fun q => q.elim) id, fun n c e => (x.wc n c e).imp (fun q => q.elim) id⟩
  refine st_compA (u := tInt) (f := fun x => x.fmod (2 ^ (26 : Int).toNat)) sx (ev_sliceL (ev_var rfl rfl rfl) evP_none (evP_some ev_int) (by omega) (fun _ _ => rfl)) iter_list (compOk_of rfl rfl rfl rfl rfl) (Nat.le_trans (pickL_le _ _ _ _) (by omega))
    (fun z hz X'' C hX'' => ev_bin (ev_var rfl rfl rfl) (ev_bin ev_int ev_int (op_pow (by decide) (by decide) (by decide))) (op_mod (by decide))) (fun _ => rfl) rfl offT (.inl rfl) fun s1 sx => ?_
  change Sx H0 _ s ⟨_, X', _, ("numbers", (tList tInt).at (numsOf script)) :: _, hT0, 5⟩ s1 at sx
  have hn8 := numsOf_len script
  generalize numsOf script = ns at sx hn8
  have hL16 := linesOf_len ns
  refine st_assign (b := (tList tBytes).at ((pks ns).map pk)) sx ((ev_call (ev_glob W rfl nm_law_packets rfl) (evs_cons (ev_var rfl rfl rfl) evs_nil fun _ => rfl) (fn_packets W (by omega)) (show 1 ≤ 5 by decide) fun _ => rfl).cast (by rw [pks, List.map_map]; rfl)) offT (.inr ⟨rfl, rfl⟩) rfl fun s2 sx => ?_
  refine st_compA (u := tBytes) (xs := pks ns) (bnd := fun q => tBytes.at (pk q)) (f := quad [43, 47]) sx (ev_var rfl rfl rfl) iter_listM (compOk_of rfl rfl rfl rfl rfl) (by rw [pks_len]; omega)
    (fun z hz X'' C hX'' => ev_call (ev_glob W rfl nm_law_quad rfl) (evs_cons (ev_var rfl rfl rfl) (evs_cons ev_bytes evs_nil fun _ => rfl) fun _ => rfl) (fn_quad W (pks_ok ns z hz) rfl) (show 1 ≤ 5 by decide) fun _ => rfl) (fun _ => rfl) rfl offT (.inl rfl) fun s3 sx => ?_
  refine st_assign sx (ev_call (ev_glob W rfl nm_law_lines rfl) (evs_cons (ev_var rfl rfl rfl) evs_nil fun _ => rfl) (fn_lines W (by omega)) (show 1 ≤ 5 by decide) fun _ => rfl) offT (.inr ⟨rfl, rfl⟩) rfl fun s4 sx => ?_
  have okp : ∀ l : List Int, ∀ q ∈ l.map (pat ns), PkOk q := fun l q hq => by obtain ⟨p, _, rfl⟩ := List.mem_map.mp hq; exact pat_ok ns p
  have hpkt : ∀ p : Int, 0 ≤ p ∧ p < 6 → ((pks ns).map pk)[p.toNat]? = some (pk (pat ns p)) := fun p hp => by rw [List.getElem?_map, pks_get hp]; rfl
  have hr : ∀ l : List Int, (l.map fun p => pk (pat ns p)).flatten = row (l.map (pat ns)) := fun l => by unfold row; rw [List.map_map]; rfl
  have hrz : ∀ l : List Int, l.length ≤ 12 → (row (l.map (pat ns))).length ≤ 36 := fun l hl => by rw [row_len, List.length_map]; omega
  refine st_assign (b := (tList tBytes).at ((List.range (linesOf ns).length).map fun k => quads (lastOf k) ((lineN ns k).map (pat ns)))) sx (ev_compA (u := tBytes) (ev_range1 W (ev_lenL W (ev_var rfl rfl rfl) (by omega) rfl (fun _ => rfl) (fun _ => rfl)) rfl (fun _ => rfl) (fun _ => rfl)) (iter_range1 (by omega)) (compOk_of rfl rfl rfl rfl rfl) (by simp; omega) (fun k hk X'' C hX'' => ?_) (fun _ => rfl)) offT (.inr ⟨rfl, rfl⟩) rfl fun s5 sx => ?_
  · have hk' := List.mem_range.mp hk
    obtain ⟨g1, g2⟩ := lineN_mem (ns := ns) k
    refine (ev_call (ev_glob W rfl nm_law_write rfl) (evs_cons (ev_var rfl rfl rfl) (evs_cons (ev_joinB (xs := (lineN ns k).map fun p => pk (pat ns p)) ev_bytes (ev_compA (g := gC _ _ _ _ _ _) (u := tBytes) (f := fun p => pk (pat ns p)) (ev_itemL (x := lineN ns k) (ev_var rfl rfl rfl) (ev_var rfl rfl rfl) (by omega) (by omega) (lineN_get hk').1 (fun _ _ => rfl) (fun _ _ => rfl)) iter_list (compOk_of rfl rfl rfl rfl rfl) (by omega)
      (fun p hp X3 C3 hX3 => ev_itemL (ev_var rfl rfl rfl) (ev_var rfl rfl rfl) (g1 p hp).1 (by have := (g1 p hp).2; omega) (hpkt p (g1 p hp)) (fun _ _ => rfl) (fun _ _ => rfl)) (fun _ => rfl)) (by rw [hr]; have := hrz _ g2; omega) rfl rfl (fun _ => rfl) (fun _ => rfl) (fun _ => rfl)) evs_nil fun _ => rfl) fun _ => rfl) (fn_write W (k := k) (x := ((lineN ns k).map fun p => pk (pat ns p)).flatten) (by rw [hr]; exact encOk_row (okp _) (by simp; omega))) (show 5 ≤ 5 by decide) fun _ => rfl).cast ?_
    rw [hr, wr_row (okp _)]
  refine st_assign (b := (tList tBytes).at [[43, 47], [45, 95], [46, 126]]) sx (ev_listT (t := tBytes) (xs := [[43, 47], [45, 95], [46, 126]]) (evs_cons ev_bytes (evs_cons ev_bytes (evs_cons ev_bytes evs_nil fun _ => rfl) fun _ => rfl) fun _ => rfl) (by decide)) offT (.inr ⟨rfl, rfl⟩) rfl fun s6 sx => ?_
  refine st_if sx (ts_cmp (ev_var rfl rfl rfl) (ev_compA (u := tBytes) (f := fun k => quads (lastOf k) ((lineN ns k).map (pat ns))) (ev_range1 W (ev_lenL W (ev_var rfl rfl rfl) (by omega) rfl (fun _ => rfl) (fun _ => rfl)) rfl (fun _ => rfl) (fun _ => rfl)) (iter_range1 (by omega)) (compOk_of' rfl rfl rfl rfl (.inr rfl)) (by simp; omega) (fun k hk X'' C hX'' => ?_) (fun _ => rfl)) (op_neL (teq_bytes (k := 0)) (by decide)) rfl) (fun h => absurd h (by decide)) fun _ s7 sx => st_nil ?_
  · have hk' := List.mem_range.mp hk
    obtain ⟨g1, g2⟩ := lineN_mem (ns := ns) k
    refine (ev_joinB (g := gC _ _ _ _ _ _) (xs := (lineN ns k).map fun p => quad (lastOf k) (pat ns p)) ev_bytes (ev_compA (g := gC _ _ _ _ _ _) (u := tBytes) (f := fun p => quad (lastOf k) (pat ns p)) (ev_itemL (x := lineN ns k) (ev_var rfl rfl rfl) (ev_var rfl rfl rfl) (by omega) (by omega) (lineN_get hk').1 (fun _ _ => rfl) (fun _ _ => rfl)) iter_list (compOk_of rfl rfl rfl rfl rfl) (by omega)
      (fun p hp X3 C3 hX3 => ev_call (ev_glob W rfl nm_law_quad rfl) (evs_cons (ev_itemL (x := pk (pat ns p)) (ev_var rfl rfl rfl) (ev_var rfl rfl rfl) (g1 p hp).1 (by have := (g1 p hp).2; omega) (hpkt p (g1 p hp)) (fun _ _ => rfl) (fun _ _ => rfl)) (evs_cons (ev_itemL (x := lastOf k) (ev_var rfl rfl rfl) (ev_bin (ev_var rfl rfl rfl) ev_int (op_mod (by decide))) (Int.fmod_nonneg (by omega) (by decide)) (by rw [fmod_eq _ _ (by decide)]; omega) (lasts_get k) (fun _ _ => rfl) (fun _ _ => rfl)) evs_nil fun _ => rfl) fun _ => rfl)
        (fn_quad W (pat_ok ns p) (lastOf_len k)) (show 1 ≤ 5 by decide) fun _ => rfl) (fun _ => rfl)) (by rw [quads_map, quads_len]; simp; omega) rfl rfl (fun _ => rfl) (fun _ => rfl) (fun _ => rfl)).cast ?_
    rw [quads_map]
  refine st_compA (u := tBytes) (f := fun k => row ((lineN ns k).map (pat ns))) sx (ev_range1 (n := ((linesOf ns).length : Int)) W ((ev_lenL W (ev_var rfl rfl rfl) (by simp; omega) rfl (fun _ => rfl) (fun _ => rfl)).cast (by rw [List.length_map, List.length_range])) rfl (fun _ => rfl) (fun _ => rfl)) (iter_range1 (by omega)) (compOk_of rfl rfl rfl rfl rfl) (by simp; omega) (fun k hk X'' C hX'' => ?_) (fun _ => rfl) rfl offT (.inl rfl) fun s8 sx => ?_
  · have hk' := List.mem_range.mp hk
    obtain ⟨g1, g2⟩ := lineN_mem (ns := ns) k
    have hrd := rd_quads (okp (lineN ns k)) (by simp; omega) k
    refine (ev_call (ev_glob W rfl nm_law_read rfl) (evs_cons (ev_var rfl rfl rfl) (evs_cons (ev_itemL (x := quads (lastOf k) ((lineN ns k).map (pat ns))) (ev_var rfl rfl rfl) (ev_var rfl rfl rfl) (by omega) (by omega) (range_get (F := fun k => quads (lastOf k) ((lineN ns k).map (pat ns))) hk') (fun _ _ => rfl) (fun _ _ => rfl)) evs_nil fun _ => rfl) fun _ => rfl) (fn_read W hrd.1) (show 5 ≤ 5 by decide) fun _ => rfl).cast ?_
    rw [hrd.2]
  rw [show (List.range (linesOf ns).length).map (fun k => row ((lineN ns k).map (pat ns))) = (linesOf ns).map fun l => row (l.map (pat ns)) from range_lines (F := fun l => row (l.map (pat ns))) (linesOf ns)] at sx
  have hpk3 : ∀ l : List Int, ∀ q ∈ (l.map (pat ns)).map pk, q.length = 3 := fun l q hq => by obtain ⟨p, _, rfl⟩ := List.mem_map.mp hq; rfl
  have hqd4 : ∀ l : List Int, ∀ q ∈ (l.map (pat ns)).map (quad [43, 47]), q.length = 4 := fun l q hq => by obtain ⟨p, _, rfl⟩ := List.mem_map.mp hq; rfl
  refine st_if sx (ts_cmp (ev_compA (u := tList tBytes) (xs := linesOf ns) (bnd := fun l => tBytes.at (row (l.map (pat ns)))) (f := fun l => (l.map (pat ns)).map pk) (ev_var rfl rfl rfl) iter_listM (compOk_of rfl rfl rfl rfl rfl) (by omega) (fun l hl X'' C hX'' => ?_) (fun _ => rfl))
    (ev_compA (u := tList tBytes) (f := fun l => (l.map (pat ns)).map pk) (ev_var rfl rfl rfl) iter_list (compOk_of rfl rfl rfl rfl rfl) (by omega) (fun l hl X'' C hX'' => ?_) (fun _ => rfl)) (op_neL (teq_list (teq_bytes (k := 0))) (by decide)) rfl) (fun h => absurd h (by decide)) fun _ s9 sx => st_nil ?_
  · obtain ⟨g1, g2⟩ := linesOf_mem hl
    exact ev_call (ev_glob W rfl nm_law_cut rfl) (evs_cons (ev_var rfl rfl rfl) (evs_cons ev_int evs_nil fun _ => rfl) fun _ => rfl) (fn_cut W (k := 3) (ps := (l.map (pat ns)).map pk) (by decide) (by decide) (hpk3 l) (by simp; omega)) (show 1 ≤ 5 by decide) fun _ => rfl
  · obtain ⟨g1, g2⟩ := linesOf_mem hl
    refine (ev_compA (g := gC _ _ _ _ _ _) (u := tBytes) (f := fun p => pk (pat ns p)) (ev_var rfl rfl rfl) iter_list (compOk_of rfl rfl rfl rfl rfl) (by omega) (fun p hp X3 C3 hX3 => ev_itemL (ev_var rfl rfl rfl) (ev_var rfl rfl rfl) (g1 p hp).1 (by have := (g1 p hp).2; omega) (hpkt p (g1 p hp)) (fun _ _ => rfl) (fun _ _ => rfl)) (fun _ => rfl)).cast ?_
    rw [List.map_map]; rfl
  refine st_told W hB sx (ev_glob W rfl nm_law_told rfl) (ev_var rfl rfl rfl) (show 3 ≤ 5 by decide) xX201 nF201 (.inl rfl) (by omega) (fun l hl => by have := (linesOf_mem hl).2; omega) (fun l hl => (linesOf_mem hl).1) (fun p h0 h6 => linesOf_all h0 h6) (fun _ => rfl) (.inl rfl) rfl fun out r s10 hr6 hout hc sx => ?_
  have ho1 : ∀ l, out.1 = some l → In6 l ∧ l.length = 6 := fun l hl => by
    rw [hout] at hl
    obtain ⟨rfl, h⟩ := outT_one hl
    exact ⟨hr6, h⟩
  have ho2 : ∀ l ∈ out.2, In6 l ∧ l.length ≤ 12 := fun l hl => by
    rw [hout] at hl
    obtain ⟨l', hl', q1, q2⟩ := outT_two hl
    obtain ⟨g1, g2⟩ := linesOf_mem hl'
    exact ⟨fun p hp => g1 p (q1 p hp), by omega⟩
  have ho3 : out.2.length ≤ 16 := by rw [hout]; show ((linesOf ns).map (left r)).length ≤ 16; rw [List.length_map]; omega
  clear hout hr6 r
  obtain ⟨o, rs⟩ := out
  simp only at ho1 ho2 ho3
  have h6L : ∀ l ∈ linesOf ns, In6 l := fun l hl => (linesOf_mem hl).1
  have hc3 := named_c3 (ns := ns) (g := pk) (fun p q hp hq e => pk_inj hp hq e) h6L hc (fun l hl => (ho1 l hl).1) fun l hl => (ho2 l hl).1
  have hc4 := named_c3 (ns := ns) (g := quad [43, 47]) (fun p q hp hq e => quad_inj hp hq e) h6L hc (fun l hl => (ho1 l hl).1) fun l hl => (ho2 l hl).1
  refine st_merge W sx offG (ev_glob W rfl nm_law_merge rfl) (ev_rows (t := tBytes) (xs := linesOf ns) (bnd := fun l => tBytes.at (row (l.map (pat ns)))) (f := fun l => (l.map (pat ns)).map pk) (ev_var rfl rfl rfl) iter_listM (compOk_of rfl rfl rfl rfl rfl) (by omega) (fun l hl X'' C hX'' => ?_) (fun _ => rfl)) (show 2 ≤ 5 by decide) (Around.frames_deeper hfr) rfl (by rw [List.length_map]; omega) (fun r hr => ?_) (N := 7) (by decide) hc3 (fun _ => rfl) (.inl rfl) rfl fun s11 sx => ?_
  · obtain ⟨g1, g2⟩ := linesOf_mem hl
    exact ev_callN (ev_glob W rfl nm_law_cut rfl) (evs_cons (ev_var rfl rfl rfl) (evs_cons ev_int evs_nil fun _ => rfl) fun _ => rfl) (fn_cutN W (k := 3) (ps := (l.map (pat ns)).map pk) (by decide) (by decide) (hpk3 l) (by simp; omega)) (show 1 ≤ 5 by decide) fun _ => rfl
  · obtain ⟨l, hl, rfl⟩ := List.mem_map.mp hr
    have := (linesOf_mem hl).2
    simp; omega
  refine st_merge W sx offG (ev_glob W rfl nm_law_merge rfl) (ev_rows (t := tBytes) (xs := linesOf ns) (bnd := fun l => tBytes.at (row (l.map (pat ns)))) (f := fun l => (l.map (pat ns)).map (quad [43, 47])) (ev_var rfl rfl rfl) iter_listM (compOk_of rfl rfl rfl rfl rfl) (by omega) (fun l hl X'' C hX'' => ?_) (fun _ => rfl)) (show 2 ≤ 5 by decide) (Around.frames_deeper hfr) rfl (by rw [List.length_map]; omega) (fun r hr => ?_) (N := 7) (by decide) hc4 (fun _ => rfl) (.inl rfl) rfl fun s12 sx => ?_
  · obtain ⟨g1, g2⟩ := linesOf_mem hl
    exact ev_callN (ev_glob W rfl nm_law_cut rfl) (evs_cons ((ev_call (ev_glob W rfl nm_standard_b64encode rfl) (evs_cons (ev_var rfl rfl rfl) evs_nil fun _ => rfl) (fn_stde W (encOk_row (okp l) (by simp; omega))) (show 4 ≤ 5 by decide) fun _ => rfl).cast (b' := tBytes.at (((l.map (pat ns)).map (quad [43, 47])).flatten)) (by rw [enc_row (okp l)]; rfl)) (evs_cons ev_int evs_nil fun _ => rfl) fun _ => rfl) (fn_cutN W (k := 4) (ps := (l.map (pat ns)).map (quad [43, 47])) (by decide) (by decide) (hqd4 l) (by simp; omega)) (show 1 ≤ 5 by decide) fun _ => rfl
  · obtain ⟨l, hl, rfl⟩ := List.mem_map.mp hr
    have := (linesOf_mem hl).2
    simp; omega
  have hq1 : TEq (tOpt (tList tBytes)) 32 := teq_opt (teq_list (teq_bytes (k := 16)))
  have hq2 : TEq (tList (tList tBytes)) 32 := teq_list (teq_list (teq_bytes (k := 0)))
  have hnam : ∀ (g : Pk → List UInt8), Fn prog w H0 209 1 [(tTwo (tOpt (tList tInt)) (tList (tList tInt))).at (o, rs), (tList tBytes).at ((pks ns).map g)] [] ((tTwo (tOpt (tList tBytes)) (tList (tList tBytes))).at (named (o, rs) ((pks ns).map g))) := fun g =>
    fn_named W (by rw [List.length_map, pks_len]) (fun l hl => ⟨(ho1 l hl).1, by have := (ho1 l hl).2; omega⟩) (fun l hl => ⟨(ho2 l hl).1, by have := (ho2 l hl).2; omega⟩) (by show rs.length ≤ 1000; omega)
  refine st_if (c := false || (false || false)) sx (ts_or (ts_cmp (ev_var rfl rfl rfl) (ev_call (ev_glob W rfl nm_law_named rfl) (evs_cons (ev_var rfl rfl rfl) (evs_cons (ev_var rfl rfl rfl) evs_nil fun _ => rfl) fun _ => rfl) (hnam pk) (show 1 ≤ 5 by decide) fun _ => rfl) (op_ne2 hq1 hq2 (by decide)) rfl) fun _ =>
    ts_or (ts_cmp (ev_var rfl rfl rfl) (ev_call (ev_glob W rfl nm_law_named rfl) (evs_cons (ev_var rfl rfl rfl) (evs_cons (ev_var rfl rfl rfl) evs_nil fun _ => rfl) fun _ => rfl) (hnam (quad [43, 47])) (show 1 ≤ 5 by decide) fun _ => rfl) (op_ne2 hq1 hq2 (by decide)) rfl) fun _ => ts_orNil) (fun h => absurd h (by decide)) fun _ s13 sx => st_nil ?_
  cases o with
  | none =>
    refine st_if (c := true) sx (ts_cmp ((ev_item2a (i := 0) (t := tOpt (tList tInt)) (u := tList (tList tInt)) (x := (none, rs)) (ev_var rfl rfl rfl) ev_int (fun _ _ => rfl) (fun _ _ => rfl)).cast (b' := tNone.at ()) rfl) ev_none op_isNoneT rfl) (fun _ s14 sx => ?_) fun h => absurd h (by decide)
    refine wpAny_execs_cons (wpAny_Return_some (Ev.use (ev_bool (b := true)) sx.cx fun v s15 k15 c15 r15 => ?_))
    obtain rfl : v = .bool true := r15
    exact ⟨_, rfl, hRs s15 (sx.keep k15).k0 c15.om⟩
  | some l =>
    obtain ⟨hl6, hlen⟩ := ho1 l rfl
    refine st_if (c := false) sx (ts_cmp ((ev_item2a (i := 0) (t := tOpt (tList tInt)) (u := tList (tList tInt)) (x := (some l, rs)) (ev_var rfl rfl rfl) ev_int (fun _ _ => rfl) (fun _ _ => rfl)).cast (b' := (tList tInt).at l) rfl) ev_none op_isNoneF rfl) (fun h => absurd h (by decide)) fun _ s14 sx => st_nil ?_
    have hnm : ∀ g : Pk → List UInt8, l.map (nmOf ((pks ns).map g)) = (l.map (pat ns)).map g := fun g => by
      rw [List.map_map]
      exact List.map_congr_left fun p hp => nm_pks (hl6 p hp)
    have hne : ∀ g : Pk → List UInt8, (l.map (pat ns)).map g ≠ [] := fun g e => by
      have := congrArg List.length e
      rw [List.length_map, List.length_map, hlen] at this; cases this
    refine st_assign (b := tBytes.at (row (l.map (pat ns)))) sx (ev_call (ev_glob W rfl nm_reduce rfl) (evs_cons (ev_glob W rfl nm_law_join rfl) (evs_cons ((ev_item2a (i := 0) (t := tOpt (tList tBytes)) (u := tList (tList tBytes)) (x := named (some l, rs) ((pks ns).map pk)) (ev_var rfl rfl rfl) ev_int (fun _ _ => rfl) (fun _ _ => rfl)).cast (b' := (tList tBytes).at ((l.map (pat ns)).map pk)) (by rw [← hnm pk]; rfl)) evs_nil fun _ => rfl) fun _ => rfl)
      (fn_reduce W (hne pk) (by show (row (l.map (pat ns))).length ≤ _; rw [row_len, List.length_map]; omega)) (show 2 ≤ 5 by decide) fun _ => rfl) offG (.inl rfl) rfl fun s15 sx => ?_
    refine st_assign (b := tBytes.at (quads [43, 47] (l.map (pat ns)))) sx (ev_call (ev_glob W rfl nm_reduce rfl) (evs_cons (ev_glob W rfl nm_law_join rfl) (evs_cons ((ev_item2a (i := 0) (t := tOpt (tList tBytes)) (u := tList (tList tBytes)) (x := named (some l, rs) ((pks ns).map (quad [43, 47]))) (ev_var rfl rfl rfl) ev_int (fun _ _ => rfl) (fun _ _ => rfl)).cast (b' := (tList tBytes).at ((l.map (pat ns)).map (quad [43, 47]))) (by rw [← hnm (quad [43, 47])]; rfl)) evs_nil fun _ => rfl) fun _ => rfl)
      (fn_reduce W (hne (quad [43, 47])) (by show (quads [43, 47] (l.map (pat ns))).length ≤ _; rw [quads_len, List.length_map]; omega)) (show 2 ≤ 5 by decide) fun _ => rfl) offG (.inl rfl) rfl fun s16 sx => ?_
    refine wpAny_execs_cons (wpAny_Return_some (Ev.use (ev_and2 (c := decide (row (l.map (pat ns)) = row (l.map (pat ns)))) (d := decide (quads [43, 47] (l.map (pat ns)) = quads [43, 47] (l.map (pat ns))))
      (ev_cmp ((ev_call (ev_glob W rfl nm_b64decode rfl) (evs_cons (ev_var rfl rfl rfl) evs_nil fun _ => rfl) (fn_b64d W (decOk_quads (okp l) (by simp; omega))) (show 3 ≤ 5 by decide) fun _ => rfl).cast (b' := tBytes.at (row (l.map (pat ns)))) (by rw [dec_quads (okp l)]))
        ((ev_joinB (xs := l.map fun p => pk (pat ns p)) ev_bytes (ev_compA (u := tBytes) (f := fun p => pk (pat ns p)) ((ev_item2a (i := 0) (t := tOpt (tList tInt)) (u := tList (tList tInt)) (x := (some l, rs)) (ev_var rfl rfl rfl) ev_int (fun _ _ => rfl) (fun _ _ => rfl)).cast (b' := (tList tInt).at l) rfl) iter_list (compOk_of rfl rfl rfl rfl rfl) (by omega)
          (fun p hp X3 C3 hX3 => ev_itemL (ev_var rfl rfl rfl) (ev_var rfl rfl rfl) (hl6 p hp).1 (by have := (hl6 p hp).2; omega) (hpkt p (hl6 p hp)) (fun _ _ => rfl) (fun _ _ => rfl)) (fun _ => rfl)) (by rw [hr, row_len, List.length_map]; omega) rfl rfl (fun _ => rfl) (fun _ => rfl) (fun _ => rfl)).cast (b' := tBytes.at (row (l.map (pat ns)))) (by rw [hr])) op_eqBytes rfl)
      (fun _ => ev_cmp ((ev_call (ev_glob W rfl nm_b64encode rfl) (evs_cons (ev_var rfl rfl rfl) evs_nil fun _ => rfl) (fn_b64e W (encOk_row (okp l) (by simp; omega))) (show 3 ≤ 5 by decide) fun _ => rfl).cast (b' := tBytes.at (quads [43, 47] (l.map (pat ns)))) (by rw [enc_row (okp l)])) (ev_var rfl rfl rfl) op_eqBytes rfl)) sx.cx fun v s17 k17 c17 r17 => ?_))
    have r17 : v = .bool (decide (row (l.map (pat ns)) = row (l.map (pat ns))) && decide (quads [43, 47] (l.map (pat ns)) = quads [43, 47] (l.map (pat ns)))) := r17
    simp only [decide_true, Bool.and_true] at r17
    subst r17
    exact ⟨_, rfl, hRs s17 (sx.keep k17).k0 c17.om⟩
end
end Mine
end

section
open PySem PySem.W PyProof.Rows
set_option maxRecDepth 100000
namespace Mine
set_option linter.unusedVariables false
set_option linter.unusedSimpArgs false
theorem ints_rel {X : XS} {h : Heap} : ∀ {vs : List Value} {ns : List Int}, IntsAre vs ns → All2 (fun v x => tInt.rel X h v x) vs ns
  | _, _, .nil => .nil
  | _, _, .cons _ t r => .cons ⟨t, rfl⟩ (ints_rel r)
theorem law_run {prog : Program} {w : World} {s₁ : Shared} {p : Program} {loose : List Str} {mean : ExcName → Option Value} {mg mb : Str → Option Value} {l : Addr} {vs : List Value} {ns : List Int} {Rs : Result → Shared → Prop}
    (KX : (hd.heap_1 w.params).In s₁.heap) (h201 : s₁.heap.get? 201 = some (tabObj #[])) (T : Top p loose mean mg mb s₁.heap) (hl : s₁.heap.IsList l vs.toArray) (hi : IntsAre vs ns) (hz : ns.length ≤ 1000)
    (hRs : ∀ s', (∀ b o, (ghostOf s₁.heap [(203, 201)]).get? b = some o → s'.heap.get? b = some o) → s'.os = s₁.os → s'.gens = s₁.gens → GrownAll [(203, 201)] s'.heap → Rs (.ok (.ret (.bool true))) s') :
    codeAny (model prog w) callerA (.call (.ref 214) ⟨[.ref l], []⟩) Rs s₁ := by
  have hT : TabsAt [(203, 201)] s₁.heap := List.forall_mem_cons.mpr ⟨⟨codeHd_of_K (c := 203) (P := 201) KX (by kernel_rfl), h201⟩, fun _ h => nomatch h⟩
  have GT := ghost_top hT T
  have g201 : (ghostOf s₁.heap [(203, 201)]).get? 201 = none := hideAll_none _ (by simp)
  have gs : ∀ b o, (ghostOf s₁.heap [(203, 201)]).get? b = some o → s₁.heap.get? b = some o ∧ b ≠ 201 := fun b o e => ⟨of_hideAll _ e, fun q => by rw [q, g201] at e; cases e⟩
  have W : W0 (hd.heap_1 w.params) (ghostOf s₁.heap [(203, 201)]) := ⟨ghost_K hT KX (by kernel_rfl), ⟨mg, mb, GT.g, GT.b, T.builtins⟩, GT.nolimit⟩
  have hB : ∃ mg, (ghostOf s₁.heap [(203, 201)]).Ns mainGlobals mg ∧ (ghostOf s₁.heap [(203, 201)]).BuiltinsAt mg 201 := by
    obtain ⟨bm, ob, b1, b2, b3, b4, b5, b6⟩ := GT.bmain
    refine ⟨mg, GT.g, bm, ob, b1, b2, fun q => ?_, (fun q => by rw [q, g201] at b3; cases b3), b3, b4, b5, b6⟩
    obtain ⟨o, es, ep, e, hd, _⟩ := GT.g
    rw [q, e] at b3; cases b3
    rw [hd] at b6; cases b6
  refine fn_law W hB ⟨rfl, by decide, by decide⟩ (below_caller s₁.heap).stack ⟨fun b o e => gs b o e⟩ (fun a (q : a = 201) => ⟨tabObj #[], q ▸ h201⟩) h201 (script := ns) ⟨l, vs, rfl, fun q => ?_, hl, ints_rel hi⟩ hz fun s' ko hp => ?_
  · obtain ⟨o, ho, hc, _⟩ := hl
    rw [q, h201] at ho; cases ho; cases hc
  · obtain ⟨h', tk, rfl, kq⟩ := ko
    exact hRs _ (fun b o e => kq b o (gs b o e).2 (gs b o e).1) rfl rfl ⟨hp, trivial⟩
end Mine
end

section
open PySem PySem.W PyProof.Rows
namespace Mine
theorem nm_law {P : Params} : nsIn (hd.heap_1 P) mainGlobals "law" = some (some (.ref 214)) := by kernel_rfl
end Mine
end

open PySem PySem.W PyProof.Rows

set_option maxRecDepth 100000 in
set_option maxHeartbeats 8000000 in
theorem PySem.Challenge.cw_qh0018_01_holds : PySem.Challenge.rw_qh0018_01.Holds :=
  Mine.hd (by
  k_fill
  intro w s₀ s₁ mg mb G Y fa o pm cd doc dV kV ho hfd hcd hD hmg hg args vals as hpre hlay hrd hwl hlo
  have KX := km_in_of Y
  have hT8 := km_tabs_of Y 201 (by simp)
  refine Ground.open G ?_
  intro T B D TE TW
  clear D hfd ho hcd hD Y
  have e214 : mg (Str.ofString "law") = some (.ref 214) := mg_of KX T.g Mine.nm_law
  have efa : fa = 214 := by
    have h : mg (Str.ofString "law") = some (.ref fa) := hmg
    rw [e214] at h; cases h; rfl
  subst efa
  have hT9 : TabsAt [(203, 201)] s₁.heap := List.forall_mem_cons.mpr ⟨⟨codeHd_of_K (c := 203) (P := 201) KX (by kernel_rfl), hT8⟩, fun _ h => nomatch h⟩
  clear hmg
  wrow_args hpre hlay hrd hwl hlo
  all_goals (first | refine callC_kw (enter_call ?_) | refine enter_call ?_)
  rename IntsAre _ _ => hI
  rename Heap.IsList _ _ _ => hLs
  rename ¬ (_ : Int) < _ => hc63
  refine kn_post hT9 (fun a x => raisesW_false (by wrow_none_raised) x) ?_
  refine Mine.law_run KX hT8 T hLs hI (by omega) fun s' hk hos hgn hgr => ⟨⟨.inl ⟨.bool true, .bool true, [], rfl, raisesW_false (by wrow_none_raised), .bool true, by wrow_post, unshared_nil⟩, hk, hos, hgn.trans hg⟩, hgr⟩)

