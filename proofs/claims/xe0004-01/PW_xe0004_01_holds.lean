import PyProof.Rows.All
import Wide.All
import OpenK.AllK
import Wide.FinOn
import PySem.Challenge.RW_xe0004_01
open PySem PySem.W PyProof.Rows
set_option Elab.async false
set_option linter.unusedVariables false
set_option maxRecDepth 100000
set_option maxHeartbeats 8000000
namespace Mine
open_top hd for PySem.Challenge.rw_xe0004_01
end Mine
section
open PySem PySem.W PyProof.Rows PySem.Calls
set_option Elab.async false
namespace Mine

inductive D where
  | none
  | bool (b : Bool)
  | int (i : Int)
  | flt (x : UInt64)
  | str (x : Str)
  | tup (ds : List D)
  | lst (ds : List D)
  | rng (n : Int)
  | mat (x : Str) (spans : List Int)
  | adr (a : Addr)
  | obj (o : Obj)

abbrev FH := Addr → Option Obj

mutual
inductive Is (g : FH) : Value → D → Prop
  | none : Is g .none .none
  | bool (b : Bool) : Is g (.bool b) (.bool b)
  | int (i : Int) (t : Tok) : Is g (.int i t) (.int i)
  | flt (x : UInt64) (t : Tok) : Is g (.float x t) (.flt x)
  | str (x : Str) (t : Tok) : Is g (.str x t) (.str x)
  | tup {a : Addr} {n : Nat} {vs : List Value} {ds : List D} (h : g a = some { cls := .type "tuple", data := .seq vs.toArray n }) (r : Iss g vs ds) : Is g (.ref a) (.tup ds)
  | lst {a : Addr} {n : Nat} {vs : List Value} {ds : List D} (h : g a = some { cls := .type "list", data := .seq vs.toArray n }) (r : Iss g vs ds) : Is g (.ref a) (.lst ds)
  | rng {a : Addr} {n : Int} (t u v : Tok) (h : g a = some { cls := .type "range", dict := none, data := .fields #[.int 0 t, .int n u, .int 1 v], slots := #[] }) : Is g (.ref a) (.rng n)
  | mat {a tup : Addr} {x : Str} {t : Tok} {p pos lim li : Value} {n : Nat} {spans : List Int} (h : g a = some { cls := .type "re.Match", data := .fields #[.str x t, p, pos, lim, li, .ref tup] }) (h2 : g tup = some { cls := .type "tuple", data := .seq (spans.map rawInt).toArray n }) : Is g (.ref a) (.mat x spans)
  | adr (a : Addr) : Is g (.ref a) (.adr a)
  | obj {a : Addr} {o : Obj} (h : g a = some o) : Is g (.ref a) (.obj o)
inductive Iss (g : FH) : List Value → List D → Prop
  | nil : Iss g [] []
  | cons {v : Value} {vs : List Value} {d : D} {ds : List D} : Is g v d → Iss g vs ds → Iss g (v :: vs) (d :: ds)
end

def Le (g g' : FH) : Prop := ∀ a o, g a = some o → g' a = some o
def Sub (g : FH) (h : Heap) : Prop := ∀ a o, g a = some o → h.get? a = some o
theorem Sub.trans' {g : FH} {h h' : Heap} (a : Sub g h) (k : ∀ b o, h.get? b = some o → h'.get? b = some o) : Sub g h' := fun x o e => k x o (a x o e)
theorem Le.refl (g : FH) : Le g g := fun _ _ e => e
theorem Le.trans {g g' g'' : FH} (a : Le g g') (b : Le g' g'') : Le g g'' := fun x o e => b x o (a x o e)
theorem Le.sub {g g' : FH} {h : Heap} (a : Le g g') (b : Sub g' h) : Sub g h := fun x o e => b x o (a x o e)

mutual
theorem Is.mono {g g' : FH} (l : Le g g') : ∀ {v : Value} {d : D}, Is g v d → Is g' v d
  | _, _, .none => .none
  | _, _, .bool b => .bool b
  | _, _, .int i t => .int i t
  | _, _, .flt i t => .flt i t
  | _, _, .str i t => .str i t
  | _, _, .tup h r => .tup (l _ _ h) (Iss.mono l r)
  | _, _, .lst h r => .lst (l _ _ h) (Iss.mono l r)
  | _, _, .rng t u v h => .rng t u v (l _ _ h)
  | _, _, .mat h h2 => .mat (l _ _ h) (l _ _ h2)
  | _, _, .adr a => .adr a
  | _, _, .obj h => .obj (l _ _ h)
theorem Iss.mono {g g' : FH} (l : Le g g') : ∀ {v : List Value} {d : List D}, Iss g v d → Iss g' v d
  | _, _, .nil => .nil
  | _, _, .cons h r => .cons (Is.mono l h) (Iss.mono l r)
end
theorem Iss.length {g : FH} : ∀ {vs : List Value} {ds : List D}, Iss g vs ds → vs.length = ds.length
  | _, _, .nil => rfl
  | _, _, .cons _ r => congrArg (· + 1) r.length
theorem Iss.append {g : FH} {ws : List Value} {es : List D} (k : Iss g ws es) : ∀ {vs : List Value} {ds : List D}, Iss g vs ds → Iss g (vs ++ ws) (ds ++ es)
  | _, _, .nil => k
  | _, _, .cons h r => .cons h (Iss.append k r)
theorem Iss.set {g : FH} {v : Value} {d : D} (h : Is g v d) : ∀ {vs : List Value} {ds : List D}, Iss g vs ds → ∀ i, Iss g (vs.set i v) (ds.set i d)
  | _, _, .nil, _ => .nil
  | _, _, .cons _ r, 0 => .cons h r
  | _, _, .cons a r, i + 1 => .cons a (Iss.set h r i)
theorem Iss.append' {g : FH} {vs ws : List Value} {ds es : List D} (h : Iss g vs ds) (k : Iss g ws es) : Iss g (vs ++ ws) (ds ++ es) := Iss.append k h
theorem Iss.get {g : FH} : ∀ {vs : List Value} {ds : List D}, Iss g vs ds → ∀ (i : Nat) (d : D), ds[i]? = some d → ∃ v, vs[i]? = some v ∧ Is g v d
  | _, _, .nil, i, d, e => by simp at e
  | _, _, .cons h r, 0, d, e => by simp at e; subst e; exact ⟨_, rfl, h⟩
  | _, _, .cons h r, i + 1, d, e => by simp at e; obtain ⟨v, a, b⟩ := r.get i d e; exact ⟨v, by simpa using a, b⟩
theorem Iss.ints {g : FH} : ∀ {vs : List Value} {ns : List Int}, Iss g vs (ns.map D.int) → IntsAre vs ns
  | _, [], .nil => .nil
  | _, _ :: _, .cons (.int _ _) r => .cons _ _ (Iss.ints r)
theorem Iss.ofInts {g : FH} : ∀ {vs : List Value} {ns : List Int}, IntsAre vs ns → Iss g vs (ns.map D.int)
  | _, _, .nil => .nil
  | _, _, .cons _ _ r => .cons (.int _ _) (Iss.ofInts r)

/-- the heap grows, all objects stay; L (a namespace) stays as a map -/
def KL (L : Addr) (s s' : Shared) : Prop :=
  ∃ h' tk, s' = { s with heap := h', toks := tk } ∧ (∀ b o, b ≠ L → s.heap.get? b = some o → h'.get? b = some o) ∧ (∀ m, s.heap.Ns L m → h'.Ns L m)
theorem KL.refl (L : Addr) (s : Shared) : KL L s s := ⟨s.heap, s.toks, rfl, fun _ _ _ e => e, fun _ e => e⟩
theorem KL.trans {L : Addr} {s s' s'' : Shared} (a : KL L s s') (b : KL L s' s'') : KL L s s'' := by
  obtain ⟨h1, t1, rfl, a1, a2⟩ := a
  obtain ⟨h2, t2, rfl, b1, b2⟩ := b
  exact ⟨h2, t2, rfl, fun x o n e => b1 x o n (a1 x o n e), fun m e => b2 m (a2 m e)⟩
theorem KL.toks (L : Addr) (s : Shared) (t : Nat) : KL L s { s with toks := t } := ⟨s.heap, t, rfl, fun _ _ _ e => e, fun _ e => e⟩
theorem KL.of_keep {L : Addr} {s : Shared} {h' : Heap} {t : Nat} (k : ∀ b o, s.heap.get? b = some o → h'.get? b = some o) : KL L s { s with heap := h', toks := t } :=
  ⟨h', t, rfl, fun b o _ e => k b o e, fun m n => n.keeps k⟩
theorem KL.keep {L : Addr} {s s' : Shared} (k : KL L s s') {b : Addr} {o : Obj} (n : b ≠ L) (e : s.heap.get? b = some o) : s'.heap.get? b = some o := by
  obtain ⟨h1, t1, rfl, a1, a2⟩ := k
  exact a1 b o n e
theorem KL.ns {L : Addr} {s s' : Shared} (k : KL L s s') {m : Str → Option Value} (e : s.heap.Ns L m) : s'.heap.Ns L m := by
  obtain ⟨h1, t1, rfl, a1, a2⟩ := k
  exact a2 m e
theorem KL.state {L : Addr} {s s' : Shared} (k : KL L s s') : s' = { s with heap := s'.heap, toks := s'.toks } := by
  obtain ⟨h1, t1, rfl, a1, a2⟩ := k
  rfl

def grow (g : FH) (h h' : Heap) : FH := fun a => match h.get? a with
  | none => h'.get? a
  | some _ => g a
theorem grow_old {g : FH} {h h' : Heap} {a : Addr} {o : Obj} (e : h.get? a = some o) : grow g h h' a = g a := by unfold grow; rw [e]
theorem grow_new {g : FH} {h h' : Heap} {a : Addr} (e : h.get? a = none) : grow g h h' a = h'.get? a := by unfold grow; rw [e]
theorem Sub.le_grow {g : FH} {h : Heap} (S : Sub g h) (h' : Heap) : Le g (grow g h h') := fun a o e => by rw [grow_old (S a o e)]; exact e
theorem Sub.grow {L : Addr} {g : FH} {s s' : Shared} (S : Sub g s.heap) (n : g L = none) (k : KL L s s') : Sub (Mine.grow g s.heap s'.heap) s'.heap := fun a o e => by
  cases q : s.heap.get? a with
  | none => rw [grow_new q] at e; exact e
  | some o' =>
    rw [grow_old q] at e
    have : a ≠ L := by rintro rfl; rw [n] at e; cases e
    exact k.keep this (S a o e)
theorem grow_none {g : FH} {h h' : Heap} {L : Addr} {o : Obj} (e : h.get? L = some o) (n : g L = none) : grow g h h' L = none := by rw [grow_old e]; exact n
theorem grow_trans {L : Addr} {g : FH} {s s' s'' : Shared} (nL : g L = none) (hL : ∃ m, s.heap.Ns L m) (k : KL L s s') (k' : KL L s' s'') : Le (grow (grow g s.heap s'.heap) s'.heap s''.heap) (grow g s.heap s''.heap) := fun a o e => by
  obtain ⟨m, hm⟩ := hL
  by_cases ha : a = L
  · subst ha
    obtain ⟨o1, _, _, q, _⟩ := id hm
    obtain ⟨o2, _, _, q2, _⟩ := k.ns hm
    rw [grow_old q2, grow_old q, nL] at e; cases e
  · cases q : s.heap.get? a with
    | some o' =>
      rw [grow_old q]
      rw [grow_old (k.keep ha q), grow_old q] at e
      exact e
    | none =>
      rw [grow_new q]
      cases q2 : s'.heap.get? a with
      | none => rw [grow_new q2] at e; exact e
      | some o2 =>
        rw [grow_old q2, grow_new q, q2] at e
        cases e
        exact k'.keep ha q2

/-- room for n more frames -/
structure Rm (n : Nat) (A : Around) : Prop where
  hh : A.handled = none
  dp : A.depth + n < recursionLimit
  un : A.units + 10 * n + 100 < cLine
theorem Rm.le {n m : Nat} {A : Around} (h : Rm n A) (l : m ≤ n) : Rm m A := ⟨h.hh, by have := h.dp; omega, by have := h.un; omega⟩
theorem Rm.deeper {n : Nat} {A : Around} (h : Rm (n + 1) A) (env : Env) : Rm n (A.deeper env) :=
  ⟨h.hh, by have := h.dp; show A.depth + 1 + n < _; omega, by have := h.un; show A.units + 3 + 10 * n + 100 < _; omega⟩

def FNs (g : FH) (a : Addr) (m : Str → Option Value) : Prop := ∃ o es ep, g a = some o ∧ o.data = .dict es ep ∧ StrKeys es ∧ ∀ name, nsFind es name = m name
theorem FNs.ns {g : FH} {h : Heap} {a : Addr} {m : Str → Option Value} (x : FNs g a m) (S : Sub g h) : h.Ns a m := let ⟨o, es, ep, e, r⟩ := x; ⟨o, es, ep, S _ _ e, r⟩
theorem FNs.mono {g g' : FH} {a : Addr} {m : Str → Option Value} (x : FNs g a m) (l : Le g g') : FNs g' a m := let ⟨o, es, ep, e, r⟩ := x; ⟨o, es, ep, l _ _ e, r⟩
theorem FNs.of {h : Heap} {a : Addr} {m : Str → Option Value} (x : h.Ns a m) : FNs (fun b => h.get? b) a m := x

/-- what the top left, and the built-in names -/
structure Gd (K : Frag) (g : FH) : Prop where
  X : ∀ a o, K.lookup a = some o → g a = some o
  G : ∃ mg mb, FNs g mainGlobals mg ∧ FNs g builtinsNs mb ∧ (∀ x : Str, x ≠ "__name__" → mb x = bootBuiltins x)
  lim : ∃ mc, FNs g cStatics mc ∧ mc "sys.recursionlimit" = none
section
variable {K : Frag} {g g' : FH} {h : Heap}
theorem Gd.mono (x : Gd K g) (l : Le g g') : Gd K g' :=
  ⟨fun a o e => l _ _ (x.X a o e), let ⟨mg, mb, a, b, c⟩ := x.G; ⟨mg, mb, a.mono l, b.mono l, c⟩, let ⟨mc, a, b⟩ := x.lim; ⟨mc, a.mono l, b⟩⟩
theorem Gd.in (x : Gd K g) (S : Sub g h) : K.In h := fun a o e => S _ _ (x.X a o e)
theorem Gd.noLimit (x : Gd K g) (S : Sub g h) : h.NoLimit := let ⟨mc, a, b⟩ := x.lim; ⟨mc, a.ns S, b⟩
end

/-- a variable of the frame -/
def Var (env : Env) (h : Heap) (m : Str → Option Value) (x : Str) (v : Value) : Prop :=
  (env.kindOf x = some .local ∧ m x = some v) ∨ (env.kindOf x = some .cell ∧ ∃ c, env.cells.lookup x = some c ∧ h.IsCell c (some v))
abbrev Sg := List (Str × D)
def Loc (env : Env) (σ : Sg) (h : Heap) (g : FH) : Prop := ∃ m, h.Ns env.locals m ∧ ∀ x d, (x, d) ∈ σ → ∃ v, Var env h m x v ∧ Is g v d

theorem Loc.ns {env : Env} {σ : Sg} {h : Heap} {g : FH} (l : Loc env σ h g) : ∃ m, h.Ns env.locals m := let ⟨m, a, _⟩ := l; ⟨m, a⟩
theorem cell_ne {h : Heap} {c L : Addr} {v : Option Value} {m : Str → Option Value} (x : h.IsCell c v) (n : h.Ns L m) : c ≠ L := by
  rintro rfl
  obtain ⟨o, e1, e2⟩ := x
  obtain ⟨o', es, ep, e3, e4, _⟩ := n
  rw [e1] at e3; cases e3
  rw [e2] at e4; cases e4
theorem Var.mono {env : Env} {s s' : Shared} {m : Str → Option Value} {x : Str} {v : Value} (k : KL env.locals s s') (n : s.heap.Ns env.locals m) (h : Var env s.heap m x v) : Var env s'.heap m x v := by
  rcases h with h | ⟨a, c, b, hc⟩
  · exact .inl h
  · refine .inr ⟨a, c, b, ?_⟩
    have := cell_ne hc n
    obtain ⟨o, e1, e2⟩ := hc
    exact ⟨o, k.keep this e1, e2⟩
theorem Loc.mono {env : Env} {σ : Sg} {s s' : Shared} {g g' : FH} (k : KL env.locals s s') (l : Le g g') (h : Loc env σ s.heap g) : Loc env σ s'.heap g' := by
  obtain ⟨m, n, f⟩ := h
  refine ⟨m, k.ns n, fun x d hx => ?_⟩
  obtain ⟨v, a, b⟩ := f x d hx
  exact ⟨v, a.mono k n, b.mono l⟩

/-- what all words about a tree begin with -/
structure Pre (K : Frag) (n : Nat) (env : Env) (σ : Sg) (A : Around) (s : Shared) (g : FH) : Prop where
  rm : Rm n A
  gd : Gd K g
  sub : Sub g s.heap
  nL : g env.locals = none
  loc : Loc env σ s.heap g
/-- what a value's tree leaves -/
def Post (L : Addr) (s : Shared) (g : FH) (d : D) (v : Value) (s' : Shared) : Prop := KL L s s' ∧ Is (grow g s.heap s'.heap) v d

section
variable {K : Frag} {n : Nat} {env : Env} {σ : Sg} {A : Around} {s s' s'' : Shared} {g : FH} {d : D} {v : Value}
theorem Pre.next (p : Pre K n env σ A s g) (k : KL env.locals s s') : Pre K n env σ A s' (grow g s.heap s'.heap) :=
  ⟨p.rm, p.gd.mono (p.sub.le_grow _), p.sub.grow p.nL k, by
    obtain ⟨m, o, _, _, e, _⟩ := p.loc.ns
    exact grow_none e p.nL, p.loc.mono k (p.sub.le_grow _)⟩
theorem Pre.up (p : Pre K n env σ A s g) {v : Value} {d : D} (i : Is g v d) (h' : Heap) : Is (grow g s.heap h') v d := i.mono (p.sub.le_grow _)
theorem Pre.ups (p : Pre K n env σ A s g) {v : List Value} {d : List D} (i : Iss g v d) (h' : Heap) : Iss (grow g s.heap h') v d := i.mono (p.sub.le_grow _)
theorem Pre.tr (p : Pre K n env σ A s g) (k : KL env.locals s s') (k' : KL env.locals s' s'') : Le (grow (grow g s.heap s'.heap) s'.heap s''.heap) (grow g s.heap s''.heap) :=
  grow_trans p.nL p.loc.ns k k'
theorem Post.trans (p : Pre K n env σ A s g) (k : KL env.locals s s') (q : Post env.locals s' (grow g s.heap s'.heap) d v s'') : Post env.locals s g d v s'' :=
  ⟨k.trans q.1, q.2.mono (p.tr k q.1)⟩
theorem Post.here (p : Pre K n env σ A s g) (i : Is g v d) (t : Nat) : Post env.locals s g d v { s with toks := t } := ⟨KL.toks _ _ _, p.up i _⟩
end

/-- an expression yields d -/
def Ev (prog : Program) (w : World) (K : Frag) (n : Nat) (env : Env) (σ : Sg) (e : Expr) (d : D) : Prop :=
  ∀ A s g E, Pre K n env σ A s g → wpAny (model prog w) A (eval e env) (Post env.locals s g d) E s
/-- expressions yield ds -/
def Evs (prog : Program) (w : World) (K : Frag) (n : Nat) (env : Env) (σ : Sg) (es : List Expr) (ds : List D) : Prop :=
  ∀ A s g E pos, Pre K n env σ A s g → wpAny (model prog w) A (spliced (backTo pos (starEach es env))) (fun vs s' => KL env.locals s s' ∧ Iss (grow g s.heap s'.heap) vs ds) E s
/-- a test yields b -/
def Te (prog : Program) (w : World) (K : Frag) (n : Nat) (env : Env) (σ : Sg) (e : Expr) (b : Bool) : Prop :=
  ∀ A s g E, Pre K n env σ A s g → wpAny (model prog w) A (isTrue e env (eval e env)) (fun c s' => KL env.locals s s' ∧ c = b) E s
/-- an operation on values -/
def Op1 (prog : Program) (w : World) (K : Frag) (n : Nat) (env : Env) (σ : Sg) (t : Value → Sem Value) (a d : D) : Prop :=
  ∀ A s g E v, Pre K n env σ A s g → Is g v a → wpAny (model prog w) A (t v) (Post env.locals s g d) E s
def Op2 (prog : Program) (w : World) (K : Frag) (n : Nat) (env : Env) (σ : Sg) (t : Value → Value → Sem Value) (a b d : D) : Prop :=
  ∀ A s g E v u, Pre K n env σ A s g → Is g v a → Is g u b → wpAny (model prog w) A (t v u) (Post env.locals s g d) E s

section
variable {prog : Program} {w : World} {K : Frag} {n : Nat} {env : Env} {σ : Sg} {e l r : Expr} {a b d d₁ d₂ : D} {pos p : Pos} {k : Nat}

theorem Ev.int {i : Int} : Ev prog w K n env σ (.Constant (.int i) k pos) (.int i) := fun _ _ _ _ P => wpAny_Constant_int (Post.here P (.int _ _) _)
theorem Ev.str {x : Str} : Ev prog w K n env σ (.Constant (.str x) k pos) (.str x) := fun _ _ _ _ P => wpAny_Constant_str (Post.here P (.str _ _) _)
theorem Ev.none : Ev prog w K n env σ (.Constant .none k pos) .none := fun _ s _ _ P => wpAny_Constant_none (Post.here P .none s.toks)
theorem Ev.bool {x : Bool} : Ev prog w K n env σ (.Constant (.bool x) k pos) (.bool x) := fun _ s _ _ P => wpAny_Constant_bool (Post.here P (.bool _) s.toks)
theorem Ev.flt {x : UInt64} : Ev prog w K n env σ (.Constant (.float x) k pos) (.flt x) := fun _ _ _ _ P => PySem.wpAny_Constant_float (Post.here P (.flt _ _) _)

theorem Ev.name {x : Str} (hx : (x, d) ∈ σ) (hk : env.scope.kind = .function := by rfl) (hd : (x == ("__debug__" : Str)) = false := by decide) : Ev prog w K n env σ (.Name x pos) d := fun A s g E P => by
  obtain ⟨m, hn, f⟩ := P.loc
  obtain ⟨v, hv, i⟩ := f x d hx
  refine wpAny_Name ?_ hd
  rcases hv with ⟨h1, h2⟩ | ⟨h1, c, h2, h3⟩
  · exact wpAny_loadName_local hk h1 hn h2 (Post.here P i s.toks)
  · exact wpAny_loadName_cell hk h1 h2 h3 (Post.here P i s.toks)

theorem Ev.bin {op : Operator} (hl : Ev prog w K n env σ l a) (hr : Ev prog w K n env σ r b) (ho : Op2 prog w K n env σ (binaryOp op) a b d) : Ev prog w K n env σ (.BinOp l op r pos) d := fun A s g E P => by
  refine wpAny_BinOp (wpAny_mono (hl A s g E P) (fun v s₁ h₁ => wpAny_mono (hr A s₁ _ E (P.next h₁.1)) (fun u s₂ h₂ => wpAny_mono (ho A s₂ _ E v u ((P.next h₁.1).next h₂.1) ((P.next h₁.1).up h₁.2 _) h₂.2) (fun x s₃ h₃ => ?_) fun _ _ x => x) fun _ _ x => x) fun _ _ x => x)
  exact Post.trans P h₁.1 (Post.trans (P.next h₁.1) h₂.1 h₃)
theorem Ev.cmp {op : CmpOp} (hl : Ev prog w K n env σ l a) (hr : Ev prog w K n env σ r b) (ho : Op2 prog w K n env σ (compareOp op) a b d) (hm : behindInMarks op r = false := by with_unfolding_all rfl) : Ev prog w K n env σ (.Compare l [op] [r] pos) d := fun A s g E P => by
  refine wpAny_Compare1 (hm := hm) (wpAny_mono (hl A s g E P) (fun v s₁ h₁ => wpAny_mono (hr A s₁ _ E (P.next h₁.1)) (fun u s₂ h₂ => wpAny_mono (ho A s₂ _ E v u ((P.next h₁.1).next h₂.1) ((P.next h₁.1).up h₁.2 _) h₂.2) (fun x s₃ h₃ => ?_) fun _ _ x => x) fun _ _ x => x) fun _ _ x => x)
  exact Post.trans P h₁.1 (Post.trans (P.next h₁.1) h₂.1 h₃)
theorem Ev.un {op : UnaryOp} (hl : Ev prog w K n env σ l a) (ho : Op1 prog w K n env σ (unaryOp op) a d) : Ev prog w K n env σ (.UnaryOp op l pos) d := fun A s g E P => by
  refine wpAny_UnaryOp (wpAny_mono (hl A s g E P) (fun v s₁ h₁ => wpAny_mono (ho A s₁ _ E v (P.next h₁.1) h₁.2) (fun x s₃ h₃ => ?_) fun _ _ x => x) fun _ _ x => x)
  exact Post.trans P h₁.1 h₃
/-- a test by a comparison of one pair -/
theorem Te.cmp {op : CmpOp} {x : Bool} (hl : Ev prog w K n env σ l a) (hr : Ev prog w K n env σ r b) (ho : Op2 prog w K n env σ (compareOp op) a b (.bool x)) (hm : behindInMarks op r = false := by with_unfolding_all rfl) : Te prog w K n env σ (.Compare l [op] [r] pos) x := fun A s g E P => by
  refine wpAny_isTrue_Compare1 (hm := hm) (wpAny_mono (hl A s g E P) (fun v s₁ h₁ => wpAny_mono (hr A s₁ _ E (P.next h₁.1)) (fun u s₂ h₂ => wpAny_mono (ho A s₂ _ E v u ((P.next h₁.1).next h₂.1) ((P.next h₁.1).up h₁.2 _) h₂.2) (fun c s₃ h₃ => ?_) fun _ _ x => x) fun _ _ x => x) fun _ _ x => x)
  obtain ⟨h3, h4⟩ := h₃
  cases h4
  exact wpAny_truthy_bool ⟨h₁.1.trans (h₂.1.trans h3), rfl⟩
theorem Te.and {x y : Expr} {c₁ c₂ : Bool} (h1 : Te prog w K n env σ x c₁) (h2 : c₁ = true → Te prog w K n env σ y c₂) : Te prog w K n env σ (.BoolOp .And [x, y] pos) (c₁ && c₂) := fun A s g E P => by
  refine wpAny_isTrue_BoolOp (wpAny_allTrue_And_cons (wpAny_mono (h1 A s g E P) (fun c s₁ h₁ => ?_) fun _ _ x => x))
  obtain ⟨k1, rfl⟩ := h₁
  cases c with
  | false => exact ⟨k1, rfl⟩
  | true =>
    refine wpAny_allTrue_And_cons (wpAny_mono (h2 rfl A s₁ _ E (P.next k1)) (fun c s₂ h₂ => ?_) fun _ _ x => x)
    obtain ⟨k2, rfl⟩ := h₂
    cases c with
    | false => exact ⟨k1.trans k2, rfl⟩
    | true => exact wpAny_allTrue_And_nil ⟨k1.trans k2, rfl⟩
theorem Ev.ite {t x y : Expr} {c : Bool} (ht : Te prog w K n env σ t c) (hx : c = true → Ev prog w K n env σ x d) (hy : c = false → Ev prog w K n env σ y d) : Ev prog w K n env σ (.IfExp t x y pos) d := fun A s g E P => by
  refine wpAny_IfExp (wpAny_mono (ht A s g E P) (fun b s₁ h₁ => ?_) fun _ _ x => x)
  obtain ⟨k1, rfl⟩ := h₁
  cases b with
  | true => exact wpAny_mono (hx rfl A s₁ _ E (P.next k1)) (fun _ _ h => Post.trans P k1 h) fun _ _ x => x
  | false => exact wpAny_mono (hy rfl A s₁ _ E (P.next k1)) (fun _ _ h => Post.trans P k1 h) fun _ _ x => x

theorem Evs.nil : Evs prog w K n env σ [] [] := fun A s g E pos P => wpAny_items_nil ⟨KL.refl _ _, .nil⟩
theorem Evs.cons {es : List Expr} {ds : List D} (h : Ev prog w K n env σ e d) (hs : Evs prog w K n env σ es ds) (he : starEach (e :: es) env = (false, eval e env) :: starEach es env := by rfl) : Evs prog w K n env σ (e :: es) (d :: ds) := fun A s g E pos P => by
  refine wpAny_items_cons (he := he) (wpAny_mono (h A s g E P) (fun v s₁ h₁ => wpAny_mono (hs A s₁ _ E pos (P.next h₁.1)) (fun vs s₂ h₂ => ?_) fun _ _ x => x) fun _ _ x => x)
  exact ⟨h₁.1.trans h₂.1, .cons (((P.next h₁.1).up h₁.2 _).mono (P.tr h₁.1 h₂.1)) (h₂.2.mono (P.tr h₁.1 h₂.1))⟩
end
end Mine
end

section
open PySem PySem.W PyProof.Rows PySem.Calls
set_option Elab.async false
set_option linter.unusedVariables false
namespace Mine

/-- all objects but one, as a ledger over the empty heap -/
def allNews (h : Heap) (L : Addr) : List (Addr × Obj) := (List.range h.objs.size).filterMap fun a => if a = L then none else (h.get? a).map fun o => (a, o)
theorem allNews_mem {h : Heap} {L a : Addr} {o : Obj} (n : a ≠ L) (e : h.get? a = some o) : (a, o) ∈ allNews h L := by
  unfold allNews
  refine List.mem_filterMap.mpr ⟨a, List.mem_range.mpr (Heap.lt_size e), ?_⟩
  rw [if_neg n, e]; rfl
theorem allNews_news (h : Heap) (L : Addr) : News {} L h (allNews h L) := by
  intro p hp
  obtain ⟨a, _, ha⟩ := List.mem_filterMap.mp hp
  split at ha
  · cases ha
  · rename_i n
    cases e : h.get? a with
    | none => rw [e] at ha; cases ha
    | some o => rw [e] at ha; cases ha; exact ⟨e, n, rfl⟩
theorem allFr {h : Heap} {L : Addr} {m : Str → Option Value} (n : h.Ns L m) : Fr {} L h m := ⟨n, (fun b o e => by simp [Heap.get?] at e), Nat.zero_le _⟩
theorem KL.of_news {L : Addr} {s : Shared} {h' : Heap} {t : Nat} (k : ∀ b o, b ≠ L → s.heap.get? b = some o → h'.get? b = some o) (n : ∀ m, s.heap.Ns L m → h'.Ns L m) : KL L s { s with heap := h', toks := t } := ⟨h', t, rfl, k, n⟩
theorem ns_unique {h : Heap} {L : Addr} {m m' : Str → Option Value} (a : h.Ns L m) (b : h.Ns L m') : m = m' := by
  obtain ⟨o, es, ep, e1, e2, _, e3⟩ := a
  obtain ⟨o', es', ep', f1, f2, _, f3⟩ := b
  rw [e1] at f1; cases f1
  rw [e2] at f2; cases f2
  funext x
  rw [← e3, ← f3]
/-- out of a rule that is stated over frame and ledger -/
theorem KL.of_fr {L : Addr} {s : Shared} {h' : Heap} {t : Nat} {m : Str → Option Value} {more : List (Addr × Obj)} (hm : s.heap.Ns L m) (F : Fr {} L h' m) (N : News {} L h' (more ++ allNews s.heap L)) : KL L s { s with heap := h', toks := t } :=
  KL.of_news (fun b o n e => (N (b, o) (List.mem_append.mpr (.inr (allNews_mem n e)))).1) fun m' hm' => ns_unique hm hm' ▸ F.ns

section
variable {prog : Program} {w : World} {K : Frag} {n : Nat} {env : Env} {σ : Sg}

theorem Op2.addI {a b : Int} : Op2 prog w K n env σ (binaryOp .Add) (.int a) (.int b) (.int (a + b)) := fun A s g E v u P hv hu => by
  cases hv; cases hu; exact add_int (Post.here P (.int _ _) _)
theorem Op2.subI {a b : Int} : Op2 prog w K n env σ (binaryOp .Sub) (.int a) (.int b) (.int (a - b)) := fun A s g E v u P hv hu => by
  cases hv; cases hu; exact sub_int (Post.here P (.int _ _) _)
theorem Op2.mulI {a b : Int} (ok : IntMulOk a b) : Op2 prog w K n env σ (binaryOp .Mult) (.int a) (.int b) (.int (a * b)) := fun A s g E v u P hv hu => by
  cases hv; cases hu; exact mul_int (hm := ok) (Post.here P (.int _ _) _)
theorem Op2.modI {a b : Int} (ok : b ≠ 0) : Op2 prog w K n env σ (binaryOp .Mod) (.int a) (.int b) (.int (a.fmod b)) := fun A s g E v u P hv hu => by
  cases hv; cases hu; exact mod_int' ok (Post.here P (.int _ _) _)
theorem Op2.fdivI {a b : Int} (ok : b ≠ 0) (hp : Builtin.divisionGoesByPylong a b = false) : Op2 prog w K n env σ (binaryOp .FloorDiv) (.int a) (.int b) (.int (a.fdiv b)) := fun A s g E v u P hv hu => by
  cases hv; cases hu
  refine floordiv_int ok (Post.here P (.int _ _) _) ?_
  exact .inl hp
theorem Op2.powI {a b : Int} (h0 : 0 ≤ b) (h1 : (Builtin.Int.intBits a : Int) * b ≤ 2 ^ 27) : Op2 prog w K n env σ (binaryOp .Pow) (.int a) (.int b) (.int (a ^ b.toNat)) := fun A s g E v u P hv hu => by
  cases hv; cases hu; exact pow_int h0 h1 (Post.here P (.int _ _) _)
theorem Op1.negI {a : Int} : Op1 prog w K n env σ (unaryOp .USub) (.int a) (.int (-a)) := fun A s g E v P hv => by
  cases hv; exact neg_int (Post.here P (.int _ _) _)

theorem Op2.addF {a b : UInt64} : Op2 prog w K n env σ (binaryOp .Add) (.flt a) (.flt b) (.flt (Float64.add a b)) := fun A s g E v u P hv hu => by
  cases hv; cases hu; exact add_float (Post.here P (.flt _ _) _)
theorem Op2.subF {a b : UInt64} : Op2 prog w K n env σ (binaryOp .Sub) (.flt a) (.flt b) (.flt (Float64.sub a b)) := fun A s g E v u P hv hu => by
  cases hv; cases hu; exact sub_float (Post.here P (.flt _ _) _)
theorem Op2.mulF {a b : UInt64} : Op2 prog w K n env σ (binaryOp .Mult) (.flt a) (.flt b) (.flt (Float64.mul a b)) := fun A s g E v u P hv hu => by
  cases hv; cases hu; exact mul_float (Post.here P (.flt _ _) _)
theorem Op2.modF {a b : UInt64} (h : Float64.isZero b = false) : Op2 prog w K n env σ (binaryOp .Mod) (.flt a) (.flt b) (.flt (Float64.divmod a b).snd) := fun A s g E v u P hv hu => by
  cases hv; cases hu
  refine AutoFloatOpsIf.mod ?_
  rw [if_neg (by rw [h]; exact Bool.false_ne_true)]
  exact Post.here P (.flt _ _) _
theorem Op2.divIF {a : Int} {b : UInt64} (h0 : Float64.isInf (Float64.ofInt a) = false) (h : Float64.isZero b = false) : Op2 prog w K n env σ (binaryOp .Div) (.int a) (.flt b) (.flt (Float64.div (Float64.ofInt a) b)) := fun A s g E v u P hv hu => by
  cases hv; cases hu
  refine AutoFloatOpsIf.truediv_if ?_
  rw [if_neg (by rw [h0]; exact Bool.false_ne_true), if_neg (by rw [h]; exact Bool.false_ne_true)]
  exact Post.here P (.flt _ _) _
theorem Op2.ltF {a b : UInt64} : Op2 prog w K n env σ (compareOp .Lt) (.flt a) (.flt b) (.bool (Float64.cmp a b == some Ordering.lt)) := fun A s g E v u P hv hu => by
  cases hv; cases hu; exact AutoFloatOps.lt_0 (Post.here P (.bool _) s.toks)

theorem Op2.eqI {a b : Int} : Op2 prog w K n env σ (compareOp .Eq) (.int a) (.int b) (.bool (a == b)) := fun A s g E v u P hv hu => by
  cases hv; cases hu; exact eq_int (Post.here P (.bool _) s.toks)
theorem Op2.neI {a b : Int} : Op2 prog w K n env σ (compareOp .NotEq) (.int a) (.int b) (.bool (a != b)) := fun A s g E v u P hv hu => by
  cases hv; cases hu; exact ne_int (Post.here P (.bool _) s.toks)
theorem Op2.ltI {a b : Int} : Op2 prog w K n env σ (compareOp .Lt) (.int a) (.int b) (.bool (decide (a < b))) := fun A s g E v u P hv hu => by
  cases hv; cases hu; exact lt_int (Post.here P (.bool _) s.toks)
theorem Op2.eqS {a b : Str} : Op2 prog w K n env σ (compareOp .Eq) (.str a) (.str b) (.bool (a == b)) := fun A s g E v u P hv hu => by
  cases hv; cases hu; exact eq_str (Post.here P (.bool _) s.toks)
theorem Op2.eqNS {b : Str} : Op2 prog w K n env σ (compareOp .Eq) .none (.str b) (.bool false) := fun A s g E v u P hv hu => by
  cases hv; cases hu; exact EqNone.eq_none_str (Post.here P (.bool _) s.toks)

def D.isNone : D → Bool
  | .none => true
  | _ => false
theorem Is.isNone {g : FH} {v : Value} {d : D} (h : Is g v d) : (v == .none) = d.isNone := by cases h <;> rfl
theorem Op2.isN {d : D} : Op2 prog w K n env σ (compareOp .Is) d .none (.bool d.isNone) := fun A s g E v u P hv hu => by
  cases hu
  refine PySem.is_none ?_
  rw [hv.isNone]
  exact Post.here P (.bool _) s.toks
theorem Op2.isNotN {d : D} : Op2 prog w K n env σ (compareOp .IsNot) d .none (.bool (!d.isNone)) := fun A s g E v u P hv hu => by
  cases hu
  refine PySem.isNot_none ?_
  rw [hv.isNone]
  exact Post.here P (.bool _) s.toks
theorem Op2.addS {a b : Str} (h : a.length + b.length ≤ sizeLine) : Op2 prog w K n env σ (binaryOp .Add) (.str a) (.str b) (.str (a ++ b)) := fun A s g E v u P hv hu => by
  cases hv; cases hu; exact add_str (hsz := h) fun t' k => Post.here P (.str _ _) _
theorem Op2.mulSI {a : Str} {b : Int} (h : MulOk a b) : Op2 prog w K n env σ (binaryOp .Mult) (.str a) (.int b) (.str (Txt.mul a b)) := fun A s g E v u P hv hu => by
  cases hv; cases hu; exact SB.mul h fun t' k => Post.here P (.str _ _) _
theorem Op2.inIs {k : Int} {ns : List Int} : Op2 prog w K n env σ (compareOp .In) (.int k) (.lst (ns.map D.int)) (.bool (ns.any (· == k))) := fun A s g E v u P hv hu => by
  cases hv
  cases hu with
  | lst h r => exact in_list_ints ⟨_, P.sub _ _ h, rfl, _, rfl⟩ r.ints (Post.here P (.bool _) s.toks)
theorem Op2.notinIs {k : Int} {ns : List Int} : Op2 prog w K n env σ (compareOp .NotIn) (.int k) (.lst (ns.map D.int)) (.bool (!ns.any (· == k))) := fun A s g E v u P hv hu => by
  cases hv
  cases hu with
  | lst h r => exact notin_list_ints ⟨_, P.sub _ _ h, rfl, _, rfl⟩ r.ints (Post.here P (.bool _) s.toks)

theorem Op2.addL {as bs : List D} (h : as.length + bs.length ≤ sizeLine) : Op2 prog w K n env σ (binaryOp .Add) (.lst as) (.lst bs) (.lst (as ++ bs)) := fun A s g E v u P hv hu => by
  obtain ⟨m, hm⟩ := P.loc.ns
  cases hv with
  | @lst a na vs _ ha ra =>
    cases hu with
    | @lst b nb us _ hb rb =>
      have hl1 : s.heap.IsList a vs.toArray := ⟨_, P.sub _ _ ha, rfl, _, rfl⟩
      have hl2 : s.heap.IsList b us.toArray := ⟨_, P.sub _ _ hb, rfl, _, rfl⟩
      refine add_arrays (hsz := by rw [List.size_toArray, List.size_toArray, ra.length, rb.length]; exact h) (allFr hm) (allNews_news s.heap env.locals) hl1 hl2 fun h' F' N' => ?_
      have k : KL env.locals s { s with heap := h' } := KL.of_fr (more := [_]) (t := s.toks) hm F' N'
      refine ⟨k, .lst (n := 0) (vs := vs ++ us) ?_ (((P.ups rb _).append (P.ups ra _)))⟩
      rw [grow_new]
      · have := (N' _ (.head _)).1
        simpa using this
      · cases q : s.heap.get? s.heap.objs.size with
        | none => rfl
        | some o => exact absurd (Heap.lt_size q) (Nat.lt_irrefl _)
end
end Mine
end

section
open PySem PySem.W PyProof.Rows PySem.Calls
set_option Elab.async false
set_option linter.unusedVariables false
namespace Mine

/-- the own list under construction: its name, its items -/
abbrev Om := Option (Str × List D)
/-- pins: objects that may change, by what is known of them -/
abbrev PH := Addr → Option (Obj → Prop)
def Pin (ρ : PH) (h : Heap) : Prop := ∀ a p, ρ a = some p → ∃ o, h.get? a = some o ∧ p o ∧ ∀ v, o.data ≠ .cell v
def noP : PH := fun _ => none
def one (a : Addr) (p : Obj → Prop) : PH := fun b => if b = a then some p else none
def put (ρ P : PH) : PH := fun a => match P a with
  | some p => some p
  | none => ρ a
theorem put_of {ρ P : PH} {a : Addr} {p : Obj → Prop} (h : P a = some p) : put ρ P a = some p := by unfold put; rw [h]
theorem put_no {ρ P : PH} {a : Addr} (h : P a = none) : put ρ P a = ρ a := by unfold put; rw [h]
theorem put_none {ρ P : PH} {a : Addr} (h : put ρ P a = none) : P a = none ∧ ρ a = none := by
  cases q : P a with
  | some p => rw [put_of q] at h; cases h
  | none => exact ⟨rfl, (put_no q).symm.trans h⟩
theorem one_self {a : Addr} {p : Obj → Prop} : one a p a = some p := if_pos rfl
theorem one_ne {a b : Addr} {p : Obj → Prop} (h : b ≠ a) : one a p b = none := if_neg h
theorem one_some {a b : Addr} {p q : Obj → Prop} (h : one a p b = some q) : b = a ∧ q = p := by
  unfold one at h
  split at h
  · rename_i e; exact ⟨e, (Option.some.inj h).symm⟩
  · cases h

def Names (env : Env) (σ : Sg) (g : FH) (h : Heap) (m : Str → Option Value) : Prop := ∀ x d, (x, d) ∈ σ → ∃ v, Var env h m x v ∧ Is g v d
def OwnL (env : Env) (s₀ : Shared) (ρ : PH) (g : FH) (h : Heap) (m : Str → Option Value) (ω : Om) : Prop :=
  ∀ x ds, ω = some (x, ds) → ∃ (a : Addr) (vs : List Value) (nn : Nat), Var env h m x (.ref a) ∧ h.get? a = some { cls := .type "list", data := .seq vs.toArray nn } ∧ Iss g vs ds ∧ g a = none ∧ ρ a = none ∧ s₀.heap.get? a = none

structure St (K : Frag) (s₀ : Shared) (g₀ : FH) (ρ : PH) (cs : List (Str × Addr)) (env : Env) (σ : Sg) (ω : Om) (s : Shared) (g : FH) : Prop where
  st : ∃ h tk, s = { s₀ with heap := h, toks := tk }
  keep : ∀ b o, s₀.heap.get? b = some o → s.heap.get? b = some o
  gd : Gd K g
  sub : Sub g s.heap
  le : Le g₀ g
  new : ∀ a o, g a = some o → g₀ a = some o ∨ s₀.heap.get? a = none
  nL : g env.locals = none
  L0 : s₀.heap.get? env.locals = none
  pin : Pin ρ s.heap
  sep : ∀ a p, ρ a = some p → g a = none ∧ a ≠ env.locals ∧ s₀.heap.get? a = none
  cells : ∀ x c, cs.lookup x = some c → env.cells.lookup x = some c ∧ g c = none ∧ ρ c = none ∧ s₀.heap.get? c = none ∧ ∃ v, s.heap.IsCell c v
  cnd : ∀ x y c, cs.lookup x = some c → env.cells.lookup y = some c → x = y
  loc : ∃ m, s.heap.Ns env.locals m ∧ Names env σ g s.heap m ∧ OwnL env s₀ ρ g s.heap m ω

section
variable {K : Frag} {s₀ s s' : Shared} {g₀ g g' : FH} {ρ P P' : PH} {cs : List (Str × Addr)} {env : Env} {σ σ' : Sg} {ω : Om} {n : Nat} {A : Around} {x : Str} {d : D} {v : Value}

theorem St.pre (S : St K s₀ g₀ ρ cs env σ ω s g) (r : Rm n A) : Pre K n env σ A s g :=
  ⟨r, S.gd, S.sub, S.nL, let ⟨m, a, b, _⟩ := S.loc; ⟨m, a, b⟩⟩

theorem list_ne_L {h : Heap} {a L : Addr} {m : Str → Option Value} {vs : Array Value} {nn : Nat} (e : h.get? a = some { cls := .type "list", data := .seq vs nn }) (n : h.Ns L m) : a ≠ L := by
  rintro rfl
  obtain ⟨o, es, ep, f, fd, _⟩ := n
  rw [e] at f; cases f; cases fd
theorem list_ne_cell {h : Heap} {a c : Addr} {v : Option Value} {vs : Array Value} {nn : Nat} (e : h.get? a = some { cls := .type "list", data := .seq vs nn }) (n : h.IsCell c v) : a ≠ c := by
  rintro rfl
  obtain ⟨o, f, fd⟩ := n
  rw [e] at f; cases f; cases fd

/-- a change that keeps what all facts speak of -/
theorem St.nextG (S : St K s₀ g₀ ρ cs env σ ω s g) (k : KL env.locals s s') (l : Le g g') (sb : Sub g' s'.heap) (nw : ∀ a o, g' a = some o → g a = some o ∨ s.heap.get? a = none) : St K s₀ g₀ ρ cs env σ ω s' g' := by
  obtain ⟨m, hm, hn, ho⟩ := S.loc
  obtain ⟨oL, _, _, eL, _⟩ := id hm
  have no : ∀ a o, s.heap.get? a = some o → g a = none → g' a = none := fun a o e n => by
    cases q : g' a with
    | none => rfl
    | some o' =>
      rcases nw a o' q with q | q
      · rw [n] at q; cases q
      · rw [e] at q; cases q
  refine ⟨?_, fun b o e => k.keep ?_ (S.keep b o e), S.gd.mono l, sb, S.le.trans l, fun a o e => ?_, no _ _ eL S.nL, S.L0, fun a p e => ?_, fun a p e => ?_, fun x c hc => ?_, S.cnd, m, k.ns hm, fun x d hx => ?_, fun x ds hx => ?_⟩
  · obtain ⟨h1, t1, rfl⟩ := S.st
    obtain ⟨h2, t2, e2, _⟩ := k
    exact ⟨h2, t2, e2⟩
  · rintro rfl; rw [S.L0] at e; cases e
  · rcases nw a o e with q | q
    · exact S.new a o q
    · right
      cases q2 : s₀.heap.get? a with
      | none => rfl
      | some o2 => rw [S.keep a o2 q2] at q; cases q
  · obtain ⟨o, eo, po⟩ := S.pin a p e
    exact ⟨o, k.keep (S.sep a p e).2.1 eo, po⟩
  · obtain ⟨o, eo, po⟩ := S.pin a p e
    exact ⟨no a o eo (S.sep a p e).1, (S.sep a p e).2⟩
  · obtain ⟨c0, c1, c2, c3, v, hv⟩ := S.cells x c hc
    have ne := cell_ne hv hm
    obtain ⟨oc, ec, dc⟩ := hv
    exact ⟨c0, no _ _ ec c1, c2, c3, v, oc, k.keep ne ec, dc⟩
  · obtain ⟨v, hv, i⟩ := hn x d hx
    exact ⟨v, hv.mono k hm, i.mono l⟩
  · obtain ⟨a, vs, nn, hv, e, r, ga, ra, a0⟩ := ho x ds hx
    exact ⟨a, vs, nn, hv.mono k hm, k.keep (list_ne_L e hm) e, r.mono l, no _ _ e ga, ra, a0⟩
theorem St.next (S : St K s₀ g₀ ρ cs env σ ω s g) (k : KL env.locals s s') : St K s₀ g₀ ρ cs env σ ω s' (grow g s.heap s'.heap) :=
  S.nextG k (S.sub.le_grow _) (S.sub.grow S.nL k) fun a o e => by
    cases q : s.heap.get? a with
    | some o' => rw [grow_old q] at e; exact .inl e
    | none => exact .inr rfl
theorem St.stay (S : St K s₀ g₀ ρ cs env σ ω s g) (k : KL env.locals s s') : St K s₀ g₀ ρ cs env σ ω s' g :=
  S.nextG k (Le.refl g) (fun a o e => k.keep (by rintro rfl; rw [S.nL] at e; cases e) (S.sub a o e)) fun a o e => .inl e

theorem St.weaken (S : St K s₀ g₀ ρ cs env σ ω s g) (h : ∀ p ∈ σ', p ∈ σ) : St K s₀ g₀ ρ cs env σ' ω s g := by
  obtain ⟨m, hm, hn, ho⟩ := S.loc
  exact ⟨S.st, S.keep, S.gd, S.sub, S.le, S.new, S.nL, S.L0, S.pin, S.sep, S.cells, S.cnd, m, hm, fun x d hx => hn x d (h _ hx), ho⟩
theorem St.forget (S : St K s₀ g₀ ρ cs env σ ω s g) : St K s₀ g₀ ρ cs env σ none s g := by
  obtain ⟨m, hm, hn, ho⟩ := S.loc
  exact ⟨S.st, S.keep, S.gd, S.sub, S.le, S.new, S.nL, S.L0, S.pin, S.sep, S.cells, S.cnd, m, hm, hn, fun _ _ e => by cases e⟩
/-- the same state, judged from its own facts on -/
theorem St.base (S : St K s₀ g₀ ρ cs env σ ω s g) : St K s₀ g ρ cs env σ ω s g :=
  ⟨S.st, S.keep, S.gd, S.sub, Le.refl g, fun _ _ e => .inl e, S.nL, S.L0, S.pin, S.sep, S.cells, S.cnd, S.loc⟩
theorem St.back {g₁ : FH} (S : St K s₀ g₁ ρ cs env σ ω s g) (l : Le g₀ g₁) (nw : ∀ a o, g₁ a = some o → g₀ a = some o ∨ s₀.heap.get? a = none) : St K s₀ g₀ ρ cs env σ ω s g :=
  ⟨S.st, S.keep, S.gd, S.sub, l.trans S.le, fun a o e => by
    rcases S.new a o e with q | q
    · exact nw a o q
    · exact .inr q, S.nL, S.L0, S.pin, S.sep, S.cells, S.cnd, S.loc⟩
theorem var_same {h : Heap} {m : Str → Option Value} {v' : Value} (a : Var env h m x v) (b : Var env h m x v') : v = v' := by
  rcases a with ⟨h1, h2⟩ | ⟨h1, c, h2, o, e1, d1⟩ <;> rcases b with ⟨q1, q2⟩ | ⟨q1, c', q2, o', e2, d2⟩
  · rw [h2] at q2; cases q2; rfl
  · rw [h1] at q1; cases q1
  · rw [h1] at q1; cases q1
  · rw [h2] at q2; cases q2
    rw [e1] at e2; cases e2
    rw [d1] at d2; cases d2; rfl
/-- new pins on new objects -/
theorem St.pinNew (S : St K s₀ g₀ ρ cs env σ ω s g) (k : KL env.locals s s') (l : Le g g') (sb : Sub g' s'.heap) (nw : ∀ a o, g' a = some o → g a = some o ∨ s.heap.get? a = none)
    (fr : ∀ a p, P a = some p → s.heap.get? a = none ∧ g' a = none) (hP : Pin P s'.heap) : St K s₀ g₀ (put ρ P) cs env σ ω s' g' := by
  have S' := S.nextG k l sb nw
  obtain ⟨m, hm, hn, ho⟩ := S'.loc
  obtain ⟨m0, hm0, hn0, ho0⟩ := S.loc
  have old : ∀ a o, s.heap.get? a = some o → P a = none := fun a o e => by
    cases q : P a with
    | none => rfl
    | some p => rw [(fr a p q).1] at e; cases e
  refine ⟨S'.st, S'.keep, S'.gd, S'.sub, S'.le, S'.new, S'.nL, S'.L0, fun a p e => ?_, fun a p e => ?_, fun x c hc => ?_, S'.cnd, m, hm, hn, fun x ds hx => ?_⟩
  · cases q : P a with
    | some p' => rw [put_of q] at e; cases e; exact hP a p q
    | none => rw [put_no q] at e; exact S'.pin a p e
  · cases q : P a with
    | some p' =>
      have f := (fr a p' q).1
      refine ⟨(fr a p' q).2, ?_, ?_⟩
      · rintro rfl
        obtain ⟨_, _, _, eL, _⟩ := id hm0
        rw [eL] at f; cases f
      · cases q2 : s₀.heap.get? a with
        | none => rfl
        | some o => rw [S.keep a o q2] at f; cases f
    | none => rw [put_no q] at e; exact S'.sep a p e
  · obtain ⟨c0, c1, c2, c3, v, hv⟩ := S.cells x c hc
    obtain ⟨c0', c1', c2', c3', v', hv'⟩ := S'.cells x c hc
    obtain ⟨oc, ec, _⟩ := hv
    exact ⟨c0, c1', (put_no (old c oc ec)).trans c2, c3, v', hv'⟩
  · obtain ⟨a, vs, nn, hv, e, r, ga, ra, a0⟩ := ho x ds hx
    refine ⟨a, vs, nn, hv, e, r, ga, ?_, a0⟩
    obtain ⟨a2, vs2, nn2, hv2, e2, _, _, ra2, _⟩ := ho0 x ds hx
    have : a = a2 := by
      have hmm : m = m0 := ns_unique hm (k.ns hm0)
      subst hmm
      have := var_same hv (Var.mono k hm0 hv2)
      cases this; rfl
    subst this
    exact (put_no (old a _ e2)).trans ra2
/-- pinned objects change -/
theorem St.touch {ρ' : PH} {T : Addr → Prop} (S : St K s₀ g₀ ρ cs env σ ω s g) (hs : ∃ h tk, s' = { s with heap := h, toks := tk }) (hT : ∀ a, T a → ∃ p, ρ a = some p)
    (up : ∀ b o, ¬ T b → s.heap.get? b = some o → s'.heap.get? b = some o)
    (hρ : ∀ a p, ρ' a = some p → (¬ T a ∧ ρ a = some p) ∨ ((∃ q, ρ a = some q) ∧ ∃ o, s'.heap.get? a = some o ∧ p o ∧ ∀ v, o.data ≠ .cell v)) : St K s₀ g₀ ρ' cs env σ ω s' (grow g s.heap s'.heap) := by
  obtain ⟨m, hm, hn, ho⟩ := S.loc
  obtain ⟨oL, _, _, eL, _⟩ := id hm
  have off : ∀ a o, g a = some o → ¬ T a := fun a o e t => by
    obtain ⟨p, q⟩ := hT a t
    rw [(S.sep a p q).1] at e; cases e
  have offL : ¬ T env.locals := fun t => by
    obtain ⟨p, q⟩ := hT _ t
    exact absurd rfl (S.sep _ p q).2.1
  have off0 : ∀ a o, s₀.heap.get? a = some o → ¬ T a := fun a o e t => by
    obtain ⟨p, q⟩ := hT a t
    rw [(S.sep a p q).2.2] at e; cases e
  have offC : ∀ c v, s.heap.IsCell c v → ¬ T c := fun c v hc t => by
    obtain ⟨p, q⟩ := hT c t
    obtain ⟨o, e, _, nc⟩ := S.pin c p q
    obtain ⟨oc, ec, dc⟩ := hc
    rw [e] at ec; cases ec
    exact absurd dc (nc _)
  have upC : ∀ c v, s.heap.IsCell c v → s'.heap.IsCell c v := fun c v hc => by
    have := offC c v hc
    obtain ⟨oc, ec, dc⟩ := hc
    exact ⟨oc, up _ _ this ec, dc⟩
  have var : ∀ x v, Var env s.heap m x v → Var env s'.heap m x v := fun x v hv => by
    rcases hv with h | ⟨a, c, b, hc⟩
    · exact .inl h
    · exact .inr ⟨a, c, b, upC _ _ hc⟩
  have dom : ∀ a, ρ a = none → ρ' a = none := fun a e => by
    cases q : ρ' a with
    | none => rfl
    | some p =>
      rcases hρ a p q with ⟨_, h⟩ | ⟨⟨q', h⟩, _⟩ <;> (rw [e] at h; cases h)
  have nLg : grow g s.heap s'.heap env.locals = none := grow_none eL S.nL
  refine ⟨?_, fun b o e => up b o (off0 b o e) (S.keep b o e), S.gd.mono (S.sub.le_grow _), fun a o e => ?_, S.le.trans (S.sub.le_grow _), fun a o e => ?_, nLg, S.L0, fun a p e => ?_, fun a p e => ?_, fun x c hc => ?_, S.cnd, m, ?_, fun x d hx => ?_, fun x ds hx => ?_⟩
  · obtain ⟨h1, t1, rfl⟩ := S.st
    obtain ⟨h2, t2, rfl⟩ := hs
    exact ⟨h2, t2, rfl⟩
  · cases q : s.heap.get? a with
    | some o' => rw [grow_old q] at e; exact up a o (off a o e) (S.sub a o e)
    | none => rw [grow_new q] at e; exact e
  · cases q : s.heap.get? a with
    | some o' => rw [grow_old q] at e; exact S.new a o e
    | none =>
      right
      cases q2 : s₀.heap.get? a with
      | none => rfl
      | some o2 => rw [S.keep a o2 q2] at q; cases q
  · rcases hρ a p e with ⟨q, h⟩ | ⟨_, h⟩
    · obtain ⟨o, eo, po, nc⟩ := S.pin a p h
      exact ⟨o, up a o q eo, po, nc⟩
    · exact h
  · have : ∃ p', ρ a = some p' := by
      rcases hρ a p e with ⟨q, h⟩ | ⟨h, _⟩
      · exact ⟨p, h⟩
      · exact h
    obtain ⟨p', e'⟩ := this
    obtain ⟨o, eo, _⟩ := S.pin a p' e'
    exact ⟨grow_none eo (S.sep a p' e').1, (S.sep a p' e').2⟩
  · obtain ⟨c0, c1, c2, c3, v, hv⟩ := S.cells x c hc
    obtain ⟨oc, ec, _⟩ := id hv
    exact ⟨c0, grow_none ec c1, dom c c2, c3, v, upC _ _ hv⟩
  · obtain ⟨o, es, ep, e, r⟩ := hm
    exact ⟨o, es, ep, up _ _ offL e, r⟩
  · obtain ⟨v, hv, i⟩ := hn x d hx
    exact ⟨v, var x v hv, i.mono (S.sub.le_grow _)⟩
  · obtain ⟨a, vs, nn, hv, e, r, ga, ra, a0⟩ := ho x ds hx
    exact ⟨a, vs, nn, var x _ hv, up a _ (fun t => by obtain ⟨p, q⟩ := hT a t; rw [ra] at q; cases q) e, r.mono (S.sub.le_grow _), grow_none e ga, dom a ra, a0⟩
theorem St.repin (S : St K s₀ g₀ (put ρ P) cs env σ ω s g) (hs : ∃ h tk, s' = { s with heap := h, toks := tk }) (dom : ∀ a, P a = none ↔ P' a = none) (up : ∀ b o, P b = none → s.heap.get? b = some o → s'.heap.get? b = some o) (hP : Pin P' s'.heap) : St K s₀ g₀ (put ρ P') cs env σ ω s' (grow g s.heap s'.heap) := by
  have some_of : ∀ a, P a ≠ none → ∃ p, P a = some p := fun a n => by
    cases q : P a with
    | none => exact absurd q n
    | some p => exact ⟨p, rfl⟩
  refine S.touch (T := fun a => P a ≠ none) hs (fun a t => ?_) (fun b o t e => up b o (Classical.not_not.mp t) e) fun a p e => ?_
  · obtain ⟨p, q⟩ := some_of a t
    exact ⟨p, put_of q⟩
  · cases q : P' a with
    | some p' =>
      rw [put_of q] at e; cases e
      obtain ⟨p2, q2⟩ := some_of a (fun h => by rw [(dom a).1 h] at q; cases q)
      exact .inr ⟨⟨p2, put_of q2⟩, hP a p q⟩
    | none =>
      rw [put_no q] at e
      have q' := (dom a).2 q
      exact .inl ⟨fun h => h q', (put_no q').trans e⟩
theorem St.quit (S : St K s₀ g₀ (put ρ P) cs env σ ω s g) (hs : ∃ h tk, s' = { s with heap := h, toks := tk }) (dis : ∀ a p, P a = some p → ρ a = none) (up : ∀ b o, P b = none → s.heap.get? b = some o → s'.heap.get? b = some o) : St K s₀ g₀ ρ cs env σ ω s' (grow g s.heap s'.heap) := by
  refine S.touch (T := fun a => P a ≠ none) hs (fun a t => ?_) (fun b o t e => up b o (Classical.not_not.mp t) e) fun a p e => ?_
  · rcases Option.eq_none_or_eq_some (P a) with q | ⟨p, q⟩
    · exact absurd q t
    · exact ⟨p, put_of q⟩
  · rcases Option.eq_none_or_eq_some (P a) with q | ⟨p', q⟩
    · exact .inl ⟨fun h => h q, (put_no q).trans e⟩
    · rw [dis a p' q] at e; cases e
end

/-- the names other than x -/
@[irreducible] def Sg.drop (x : Str) (σ : Sg) : Sg := σ.filter fun p => !(p.1 == x)
theorem Sg.mem_drop {x y : Str} {σ : Sg} {d : D} (h : (y, d) ∈ σ) (n : (y == x) = false := by decide) : (y, d) ∈ Sg.drop x σ := by unfold Sg.drop; exact List.mem_filter.mpr ⟨h, by simp [n]⟩
theorem Sg.hd {p : Str × D} {σ : Sg} : p ∈ p :: σ := List.Mem.head _
theorem Sg.tl {p q : Str × D} {σ : Sg} (h : p ∈ σ) : p ∈ q :: σ := List.Mem.tail _ h
theorem Sg.of_drop {x y : Str} {σ : Sg} {d : D} (h : (y, d) ∈ Sg.drop x σ) : (y, d) ∈ σ ∧ y ≠ x := by
  unfold Sg.drop at h
  have := List.mem_filter.mp h
  exact ⟨this.1, fun e => by simp [e] at this⟩

section
variable {prog : Program} {w : World} {K : Frag} {s₀ s s' : Shared} {g₀ g g' : FH} {ρ P P' : PH} {cs : List (Str × Addr)} {env : Env} {σ σ' : Sg} {ω : Om} {n : Nat} {A : Around} {x : Str} {d : D} {v : Value}
/-- a new value under a local name -/
theorem St.storedAt (S : St K s₀ g₀ ρ cs env σ ω s g) (hs : ∃ h tk, s' = { s with heap := h, toks := tk }) (up : ∀ b o, b ≠ env.locals → s.heap.get? b = some o → s'.heap.get? b = some o)
    (hN : ∀ m, s.heap.Ns env.locals m → s'.heap.Ns env.locals (fun z => if z = x then some v else m z)) (l : Le g g') (sb : Sub g' s'.heap) (nw : ∀ a o, g' a = some o → g a = some o ∨ s.heap.get? a = none)
    (σn : Sg) (i : ∀ p ∈ σn, p.1 = x ∧ Is g' v p.2) (hx : env.kindOf x = some .local) (ho : ∀ y ds, ω = some (y, ds) → y ≠ x) : St K s₀ g₀ ρ cs env (σn ++ Sg.drop x σ) ω s' g' := by
  obtain ⟨m, hm, hn, hw⟩ := S.loc
  obtain ⟨oL, _, _, eL, _⟩ := id hm
  have no : ∀ a o, s.heap.get? a = some o → g a = none → g' a = none := fun a o e n => by
    cases q : g' a with
    | none => rfl
    | some o' =>
      rcases nw a o' q with q | q
      · rw [n] at q; cases q
      · rw [e] at q; cases q
  have var : ∀ y u, y ≠ x → Var env s.heap m y u → Var env s'.heap (fun z => if z = x then some v else m z) y u := fun y u ny hv => by
    rcases hv with ⟨a, b⟩ | ⟨a, c, b, hc⟩
    · exact .inl ⟨a, (if_neg ny).trans b⟩
    · have := cell_ne hc hm
      obtain ⟨oc, ec, dc⟩ := hc
      exact .inr ⟨a, c, b, oc, up _ _ this ec, dc⟩
  refine ⟨?_, fun b o eb => up b o ?_ (S.keep b o eb), S.gd.mono l, sb, S.le.trans l, fun a o e => ?_, no _ _ eL S.nL, S.L0, fun a p e => ?_, fun a p e => ?_, fun y c hc => ?_, S.cnd, _, hN m hm, fun y dy hy => ?_, fun y ds hy => ?_⟩
  · obtain ⟨h1, t1, rfl⟩ := S.st
    obtain ⟨h2, t2, rfl⟩ := hs
    exact ⟨_, _, rfl⟩
  · rintro rfl; rw [S.L0] at eb; cases eb
  · rcases nw a o e with q | q
    · exact S.new a o q
    · right
      cases q2 : s₀.heap.get? a with
      | none => rfl
      | some o2 => rw [S.keep a o2 q2] at q; cases q
  · obtain ⟨o, eo, po⟩ := S.pin a p e
    exact ⟨o, up a o (S.sep a p e).2.1 eo, po⟩
  · obtain ⟨o, eo, po⟩ := S.pin a p e
    exact ⟨no a o eo (S.sep a p e).1, (S.sep a p e).2⟩
  · obtain ⟨c0, c1, c2, c3, vc, hv⟩ := S.cells y c hc
    have := cell_ne hv hm
    obtain ⟨oc, ec, dc⟩ := hv
    exact ⟨c0, no _ _ ec c1, c2, c3, vc, oc, up _ _ this ec, dc⟩
  · rcases List.mem_append.mp hy with hy | hy
    · obtain ⟨e, i2⟩ := i _ hy
      have e : y = x := e
      subst e
      exact ⟨v, .inl ⟨hx, if_pos rfl⟩, i2⟩
    · obtain ⟨h1, h2⟩ := Sg.of_drop hy
      obtain ⟨u, hu, iu⟩ := hn y dy h1
      exact ⟨u, var y u h2 hu, iu.mono l⟩
  · obtain ⟨a, vs, nn, hv, ea, r, ga, ra, a0⟩ := hw y ds hy
    exact ⟨a, vs, nn, var y _ (ho y ds hy) hv, up a _ (list_ne_L ea hm) ea, r.mono l, no _ _ ea ga, ra, a0⟩
theorem St.store {E : Value → Shared → Prop} {R : Unit → Shared → Prop} (S : St K s₀ g₀ ρ cs env σ ω s g) (i : Is g v d)
    (hx : env.kindOf x = some .local) (hp : (env.scope.kind == .class || (env.scope.kind == .module && env.locals != env.globals)) = false) (ho : ∀ y ds, ω = some (y, ds) → y ≠ x)
    (h : ∀ s', St K s₀ g₀ ρ cs env ((x, d) :: Sg.drop x σ) ω s' g → R () s') : wpAny (model prog w) A (storeName env x v) R E s := by
  obtain ⟨m, hm, hn, hw⟩ := S.loc
  refine wpAny_storeName_local hx hm (fun h' hm' hs => h _ ?_) hp
  have up : ∀ b o, b ≠ env.locals → s.heap.get? b = some o → h'.get? b = some o := fun b o nb e => (hs.2 b nb).trans e
  exact S.storedAt ⟨_, _, rfl⟩ up (fun m2 hm2 => by cases ns_unique hm hm2; exact hm') (Le.refl g) (fun a o ea => up a o (by rintro rfl; rw [S.nL] at ea; cases ea) (S.sub a o ea)) (fun a o e => .inl e) [(x, d)] (fun p hp => by rw [List.mem_singleton] at hp; subst hp; exact ⟨rfl, i⟩) hx ho

/-- storing a value under a name that inner blocks share -/
theorem St.storeC {c : Addr} {E : Value → Shared → Prop} {R : Unit → Shared → Prop} (S : St K s₀ g₀ ρ cs env σ ω s g) (i : Is g v d)
    (hk : env.scope.kind = .function) (hx : env.kindOf x = some .cell) (hc : cs.lookup x = some c) (ho : ∀ y ds, ω = some (y, ds) → y ≠ x)
    (h : ∀ s', St K s₀ g₀ ρ cs env ((x, d) :: Sg.drop x σ) ω s' g → R () s') : wpAny (model prog w) A (storeName env x v) R E s := by
  obtain ⟨m, hm, hn, hw⟩ := S.loc
  obtain ⟨c0, c1, c2, c3, v0, hv0⟩ := S.cells x c hc
  refine wpAny_storeName_cell hk hx c0 hv0 fun h' hv' hs => h _ ?_
  have cL := cell_ne hv0 hm
  have up : ∀ b o, b ≠ c → s.heap.get? b = some o → h'.get? b = some o := fun b o nb e => (hs.2 b nb).trans e
  have var : ∀ y u, y ≠ x → Var env s.heap m y u → Var env h' m y u := fun y u ny hv => by
    rcases hv with h1 | ⟨a, c', b, hc'⟩
    · exact .inl h1
    · have : c' ≠ c := fun e => ny (S.cnd x y c hc (e ▸ b)).symm
      obtain ⟨oc, ec, dc⟩ := hc'
      exact .inr ⟨a, c', b, oc, up _ _ this ec, dc⟩
  refine ⟨?_, fun b o eb => up b o ?_ (S.keep b o eb), S.gd, fun a o ea => up a o ?_ (S.sub a o ea), S.le, S.new, S.nL, S.L0, fun a p ea => ?_, S.sep, fun y c' hc' => ?_, S.cnd, m, hm.sameBut hs (Ne.symm cL), fun y dy hy => ?_, fun y ds hy => ?_⟩
  · obtain ⟨h1, t1, rfl⟩ := S.st; exact ⟨_, _, rfl⟩
  · rintro rfl; rw [c3] at eb; cases eb
  · rintro rfl; rw [c1] at ea; cases ea
  · obtain ⟨o, eo, po⟩ := S.pin a p ea
    refine ⟨o, up a o ?_ eo, po⟩
    rintro rfl; rw [c2] at ea; cases ea
  · obtain ⟨d0, d1, d2, d3, vc, hv⟩ := S.cells y c' hc'
    by_cases q : c' = c
    · subst q; exact ⟨d0, d1, d2, d3, _, hv'⟩
    · obtain ⟨oc, ec, dc⟩ := hv
      exact ⟨d0, d1, d2, d3, vc, oc, up _ _ q ec, dc⟩
  · rcases List.mem_cons.mp hy with hy | hy
    · cases hy; exact ⟨v, .inr ⟨hx, c, c0, hv'⟩, i⟩
    · obtain ⟨h1, h2⟩ := Sg.of_drop hy
      obtain ⟨u, hu, iu⟩ := hn y dy h1
      exact ⟨u, var y u h2 hu, iu⟩
  · obtain ⟨a, vs, nn, hv, ea, r, ga, ra, a0⟩ := hw y ds hy
    exact ⟨a, vs, nn, var y _ (ho y ds hy) hv, up a _ (list_ne_cell ea hv0) ea, r, ga, ra, a0⟩
end

/-- statements: from any state that fits, they end in Q -/
def Exs (prog : Program) (w : World) (K : Frag) (n : Nat) (s₀ : Shared) (g₀ : FH) (env : Env) (σ : Sg) (ω : Om) (ss : List Stmt) (Q : PH → Flow → Shared → Prop) : Prop :=
  ∀ ρ A s g E, Rm n A → St K s₀ g₀ ρ env.cells env σ ω s g → wpAny (model prog w) A (execs ss env) (Q ρ) E s
/-- the end behind which statements follow -/
def NextQ (K : Frag) (s₀ : Shared) (g₀ : FH) (env : Env) (σ : Sg) (ω : Om) : PH → Flow → Shared → Prop := fun ρ fl s => fl = .next ∧ ∃ g, St K s₀ g₀ ρ env.cells env σ ω s g
/-- the end of a def that hands back d -/
def RetQ (s₀ : Shared) (g₀ : FH) (d : D) : PH → Flow → Shared → Prop := fun _ fl s => ∃ v, fl = .ret v ∧ (∃ h tk, s = { s₀ with heap := h, toks := tk }) ∧ (∀ b o, s₀.heap.get? b = some o → s.heap.get? b = some o) ∧ Is (grow g₀ s₀.heap s.heap) v d

def freeOf (x : Str) : Om → Prop
  | none => True
  | some (y, _) => y ≠ x
theorem freeOf.no {x : Str} {ω : Om} (h : freeOf x ω) : ∀ y ds, ω = some (y, ds) → y ≠ x := fun y ds e => by subst e; exact h

section
variable {prog : Program} {w : World} {K : Frag} {n : Nat} {s₀ : Shared} {g₀ : FH} {env : Env} {σ σ' : Sg} {ω ω' : Om} {ss rest : List Stmt} {Q : PH → Flow → Shared → Prop} {e : Expr} {d : D} {x : Str} {pos p : Pos}

theorem Exs.nil : Exs prog w K n s₀ g₀ env σ ω [] (NextQ K s₀ g₀ env σ ω) := fun ρ A s g E r S => wpAny_execs_nil ⟨rfl, g, S⟩
theorem Exs.nilW (h : ∀ p ∈ σ', p ∈ σ) : Exs prog w K n s₀ g₀ env σ ω [] (NextQ K s₀ g₀ env σ' ω) := fun ρ A s g E r S => wpAny_execs_nil ⟨rfl, g, S.weaken h⟩
theorem Exs.nilE (h : ∀ p ∈ σ', p ∈ σ) (q : ω = ω') : Exs prog w K n s₀ g₀ env σ ω [] (NextQ K s₀ g₀ env σ' ω') := fun ρ A s g E r S => wpAny_execs_nil ⟨rfl, g, q ▸ S.weaken h⟩
theorem Exs.weaken (h : Exs prog w K n s₀ g₀ env σ' ω ss Q) (hs : ∀ p ∈ σ', p ∈ σ) : Exs prog w K n s₀ g₀ env σ ω ss Q := fun ρ A s g E r S => h ρ A s g E r (S.weaken hs)
theorem Exs.forget (h : Exs prog w K n s₀ g₀ env σ none ss Q) : Exs prog w K n s₀ g₀ env σ ω ss Q := fun ρ A s g E r S => h ρ A s g E r S.forget

theorem Exs.assign (he : Ev prog w K n env σ e d) (h : Exs prog w K n s₀ g₀ env ((x, d) :: Sg.drop x σ) ω rest Q)
    (hx : env.kindOf x = some .local := by rfl) (hp : (env.scope.kind == .class || (env.scope.kind == .module && env.locals != env.globals)) = false := by rfl) (ho : freeOf x ω := by first | exact True.intro | (show (_ : Str) ≠ _; decide))
    (hs : swapsWith e (some (.Name x p)) pos.line env = pure false := by rfl) : Exs prog w K n s₀ g₀ env σ ω (.Assign [.Name x p] e pos :: rest) Q := fun ρ A s g E r S => by
  refine wpAny_execs_cons (wpAny_Assign_Name (hs := hs) (wpAny_mono (he A s g E (S.pre r)) (fun v s₁ h₁ => ?_) fun _ _ x => x))
  exact (S.next h₁.1).store h₁.2 hx hp ho.no fun s' S' => h ρ A s' _ E r S'
theorem Exs.assignC {c : Addr} (he : Ev prog w K n env σ e d) (h : Exs prog w K n s₀ g₀ env ((x, d) :: Sg.drop x σ) ω rest Q)
    (hx : env.kindOf x = some .cell := by rfl) (hc : env.cells.lookup x = some c := by rfl) (hk : env.scope.kind = .function := by rfl) (ho : freeOf x ω := by first | exact True.intro | (show (_ : Str) ≠ _; decide))
    (hs : swapsWith e (some (.Name x p)) pos.line env = pure false := by rfl) : Exs prog w K n s₀ g₀ env σ ω (.Assign [.Name x p] e pos :: rest) Q := fun ρ A s g E r S => by
  refine wpAny_execs_cons (wpAny_Assign_Name (hs := hs) (wpAny_mono (he A s g E (S.pre r)) (fun v s₁ h₁ => ?_) fun _ _ x => x))
  exact (S.next h₁.1).storeC h₁.2 hk hx hc ho.no fun s' S' => h ρ A s' _ E r S'

theorem St.retQ {ρ : PH} {cs : List (Str × Addr)} {s : Shared} {g : FH} {v : Value} (S' : St K s₀ g₀ ρ cs env σ ω s g) (i : Is g v d) : RetQ s₀ g₀ d ρ (.ret v) s := by
  refine ⟨v, rfl, S'.st, S'.keep, i.mono fun a o ea => ?_⟩
  rcases S'.new a o ea with q | q
  · cases q2 : s₀.heap.get? a with
    | none => rw [grow_new q2]; exact S'.sub a o ea
    | some o2 => rw [grow_old q2]; exact q
  · rw [grow_new q]; exact S'.sub a o ea
theorem Exs.ret (he : Ev prog w K n env σ e d) : Exs prog w K n s₀ g₀ env σ ω (.Return (some e) pos :: rest) (RetQ s₀ g₀ d) := fun ρ A s g E r S => by
  refine wpAny_execs_cons (wpAny_Return_some (wpAny_mono (he A s g E (S.pre r)) (fun v s₁ h₁ => ?_) fun _ _ x => x))
  exact (S.next h₁.1).retQ h₁.2

theorem Exs.ite {t : Expr} {body orelse : List Stmt} {c : Bool} (ht : Te prog w K n env σ t c) (h1 : c = true → Exs prog w K n s₀ g₀ env σ ω body (NextQ K s₀ g₀ env σ' ω')) (h2 : c = false → Exs prog w K n s₀ g₀ env σ ω orelse (NextQ K s₀ g₀ env σ' ω'))
    (h : Exs prog w K n s₀ g₀ env σ' ω' rest Q) : Exs prog w K n s₀ g₀ env σ ω (.If t body orelse pos :: rest) Q := fun ρ A s g E r S => by
  refine wpAny_execs_cons (wpAny_If (wpAny_mono (ht A s g E (S.pre r)) (fun b s₁ h₁ => ?_) fun _ _ x => x))
  obtain ⟨k1, rfl⟩ := h₁
  have S' := S.next k1
  cases b with
  | true =>
    refine wpAny_mono (h1 rfl ρ A s₁ _ E r S') (fun fl s₂ h₂ => ?_) fun _ _ x => x
    obtain ⟨rfl, g2, S2⟩ := h₂
    exact h ρ A s₂ g2 E r S2
  | false =>
    refine wpAny_mono (h2 rfl ρ A s₁ _ E r S') (fun fl s₂ h₂ => ?_) fun _ _ x => x
    obtain ⟨rfl, g2, S2⟩ := h₂
    exact h ρ A s₂ g2 E r S2
/-- an if that returns, known to be taken -/
theorem Exs.ifRet {t : Expr} {body orelse : List Stmt} (ht : Te prog w K n env σ t true) (h1 : Exs prog w K n s₀ g₀ env σ ω body (RetQ s₀ g₀ d)) : Exs prog w K n s₀ g₀ env σ ω (.If t body orelse pos :: rest) (RetQ s₀ g₀ d) := fun ρ A s g E r S => by
  refine wpAny_execs_cons (wpAny_If (wpAny_mono (ht A s g E (S.pre r)) (fun b s₁ h₁ => ?_) fun _ _ x => x))
  obtain ⟨k1, rfl⟩ := h₁
  refine wpAny_mono (h1 ρ A s₁ _ E r (S.next k1)) (fun fl s₂ h₂ => ?_) fun _ _ x => x
  obtain ⟨v, rfl, h3⟩ := h₂
  exact ⟨v, rfl, h3⟩
/-- an if known not to be taken, without an else -/
theorem Exs.ifNot {t : Expr} {body : List Stmt} (ht : Te prog w K n env σ t false) (h : Exs prog w K n s₀ g₀ env σ ω rest Q) : Exs prog w K n s₀ g₀ env σ ω (.If t body [] pos :: rest) Q :=
  Exs.ite (σ' := σ) (ω' := ω) ht (fun e => by cases e) (fun _ => Exs.nil) h
/-- an if of which the test is known, in one piece -/
theorem Exs.ifYes {t : Expr} {body orelse : List Stmt} (ht : Te prog w K n env σ t true) (h1 : Exs prog w K n s₀ g₀ env σ ω body (NextQ K s₀ g₀ env σ' ω')) (h : Exs prog w K n s₀ g₀ env σ' ω' rest Q) : Exs prog w K n s₀ g₀ env σ ω (.If t body orelse pos :: rest) Q :=
  Exs.ite ht (fun _ => h1) (fun e => by cases e) h
theorem Exs.ifElse {t : Expr} {body orelse : List Stmt} (ht : Te prog w K n env σ t false) (h1 : Exs prog w K n s₀ g₀ env σ ω orelse (NextQ K s₀ g₀ env σ' ω')) (h : Exs prog w K n s₀ g₀ env σ' ω' rest Q) : Exs prog w K n s₀ g₀ env σ ω (.If t body orelse pos :: rest) Q :=
  Exs.ite ht (fun e => by cases e) (fun _ => h1) h
end
end Mine
end

section
open PySem PySem.W PyProof.Rows PySem.Calls
set_option Elab.async false
set_option linter.unusedVariables false
namespace Mine

/-- a call of the def at f with ds yields d -/
def Fn (prog : Program) (w : World) (K : Frag) (n : Nat) (f : Addr) (ds : List D) (d : D) : Prop :=
  ∀ A s g E vs, Rm n A → Gd K g → Sub g s.heap → Iss g vs ds →
    wpAny (model prog w) A (call (.ref f) vs) (fun v s' => (∃ h tk, s' = { s with heap := h, toks := tk }) ∧ (∀ b o, s.heap.get? b = some o → s'.heap.get? b = some o) ∧ Is (grow g s.heap s'.heap) v d) E s

theorem lookup_zip {g : FH} : ∀ {names : List Str} {vs : List Value} {ds : List D}, names.Nodup → Iss g vs ds → ∀ x d, (x, d) ∈ names.zip ds → ∃ v, (names.zip vs).lookup x = some v ∧ Is g v d
  | [], _, _, _, _, x, d, h => by simp at h
  | y :: names, _, _, _, .nil, x, d, h => by simp at h
  | y :: names, _, _, hn, .cons (v := v) (vs := vs) (d := d') i r, x, d, h => by
    rw [List.nodup_cons] at hn
    rw [List.zip_cons_cons] at h ⊢
    rcases List.mem_cons.mp h with h | h
    · cases h; exact ⟨v, by simp, i⟩
    · have hx : x ≠ y := fun e => hn.1 (e ▸ (List.of_mem_zip h).1)
      obtain ⟨u, a, b⟩ := lookup_zip hn.2 r x d h
      have hb : (x == y) = false := by simpa using hx
      exact ⟨u, by rw [List.lookup_cons, hb]; exact a, b⟩
theorem lookup_rev {names : List Str} {vs : List Value} (hn : names.Nodup) (hl : vs.length = names.length) (x : Str) : (names.zip vs).reverse.lookup x = (names.zip vs).lookup x := by
  have nd : ((names.zip vs).map (·.1)).Nodup := by
    rw [List.map_fst_zip (by omega)]; exact hn
  generalize names.zip vs = l at nd
  induction l with
  | nil => rfl
  | cons p l ih =>
    obtain ⟨a, b⟩ := p
    rw [List.map_cons, List.nodup_cons] at nd
    rw [List.reverse_cons, List.lookup_append, ih nd.2, List.lookup_cons, List.lookup_cons]
    by_cases hx : x = a
    · subst hx
      have : List.lookup x l = none := by
        rw [List.lookup_eq_none_iff]
        intro p hp
        have : p.1 ≠ x := fun e => nd.1 (List.mem_map.mpr ⟨p, hp, e⟩)
        simpa using fun e : x = p.1 => this e.symm
      simp [this]
    · have hb : (x == a) = false := by simpa using hx
      rw [hb]; simp

section
variable {prog : Program} {w : World} {K : Frag} {n : Nat}

theorem Fn.of_defB {f : Addr} {ds : List D} {d : D} {names : List Str} {name qual : Str} {params : Arguments} {body : List Stmt} {scope : Scope} {dV kV doc pm cdv ct oc : Value} {an od : Option Addr} {osl : Array (Option Value)}
    (ho : K.lookup f = some ⟨oc, od, .func (fnOf name qual params body scope dV kV doc pm an cdv ct), osl⟩) (hcd : codeIn K cdv qual = true)
    (hn : names.Nodup) (hl : ds.length = names.length)
    (hb : ∀ (s : Shared), K.In s.heap → ∀ vs : List Value, vs.length = names.length → BindsTo s (fnOf name qual params body scope dV kV doc pm an cdv ct) ⟨vs, []⟩ (names.zip vs))
    (hloc : ∀ x ∈ names, scope.names.lookup x = some .local) (hcell : ∀ x ∈ scope.names, x.2 ≠ .cell)
    (hco : scope.isCoroutine = false) (hgen : scope.isGenerator = false) (hk : scope.kind = .function)
    (h : ∀ s₀ g₀ L, Exs prog w K n s₀ g₀ (envOf qual scope L f cdv) (names.zip ds) none body (RetQ s₀ g₀ d)) : Fn prog w K (n + 1) f ds d := fun A s g E vs r G S I => by
  have X : K.In s.heap := G.in S
  have lv : vs.length = names.length := by rw [I.length, hl]
  refine wpAny_call (codeAny_call_def (fd := fnOf name qual params body scope dV kV doc pm an cdv ct) (binds := names.zip vs) (by have := r.dp; omega) (X _ _ ho) rfl (G.noLimit S) (codeRec_of X hcd) rfl (hb s X vs lv) hcell
    (fun x hx => hloc x.1 (List.of_mem_zip hx).1) (fun h₀ hns hk₀ => ?_) hco hgen hk)
  have fresh : ∀ {o : Option Obj}, s.heap.get? s.heap.objs.size = o → o = none := fun {o} e => by
    cases o with
    | none => rfl
    | some o => exact absurd (Heap.lt_size e) (Nat.lt_irrefl _)
  have hfr := fresh rfl
  refine wpAny_mono (h s g s.heap.objs.size noP _ _ g _ (r.deeper _) ?_) (fun fl s' q => ?_) fun _ _ x => x
  · refine ⟨⟨_, _, rfl⟩, hk₀, G, fun a o e => hk₀ a o (S a o e), Le.refl g, fun a o e => .inl e, ?_, hfr, (fun a p e => by cases e), (fun a p e => by cases e), (fun x c hc => by cases hc), (fun x y c hc => by cases hc), _, hns, fun x d' hx => ?_, (fun _ _ e => by cases e)⟩
    · cases q : g s.heap.objs.size with
      | none => exact q
      | some o => have := S _ _ q; rw [hfr] at this; cases this
    · obtain ⟨v, a, b⟩ := lookup_zip hn I x d' hx
      exact ⟨v, .inl ⟨hloc x (List.of_mem_zip hx).1, (lookup_rev hn lv x).trans a⟩, b⟩
  · obtain ⟨v, rfl, a, b, c⟩ := q
    exact ⟨a, b, c⟩

theorem Fn.of_def {f : Addr} {ds : List D} {d : D} {names : List Str} {name qual : Str} {params : Arguments} {body : List Stmt} {scope : Scope} {dV kV doc pm cdv ct oc : Value} {an od : Option Addr} {osl : Array (Option Value)}
    (ho : K.lookup f = some ⟨oc, od, .func (fnOf name qual params body scope dV kV doc pm an cdv ct), osl⟩) (hcd : codeIn K cdv qual = true)
    (hn : names.Nodup) (hl : ds.length = names.length)
    (hb : ∀ vs : List Value, vs.length = names.length → bindArgs (fnOf name qual params body scope dV kV doc pm an cdv ct) ⟨vs, []⟩ = pure (names.zip vs))
    (hloc : ∀ x ∈ names, scope.names.lookup x = some .local) (hcell : ∀ x ∈ scope.names, x.2 ≠ .cell)
    (hco : scope.isCoroutine = false) (hgen : scope.isGenerator = false) (hk : scope.kind = .function)
    (h : ∀ s₀ g₀ L, Exs prog w K n s₀ g₀ (envOf qual scope L f cdv) (names.zip ds) none body (RetQ s₀ g₀ d)) : Fn prog w K (n + 1) f ds d :=
  Fn.of_defB ho hcd hn hl (fun s X vs hv => .of_eq (hb vs hv)) hloc hcell hco hgen hk h

theorem size_none {h : Heap} {a : Addr} (l : h.objs.size ≤ a) : h.get? a = none := by
  cases q : h.get? a with
  | none => rfl
  | some o => exact absurd (Heap.lt_size q) (Nat.not_lt.mpr l)
theorem Sub.none {g : FH} {h : Heap} (S : Sub g h) {a : Addr} (e : h.get? a = none) : g a = none := by
  cases q : g a with
  | none => rfl
  | some o => have := S _ _ q; rw [e] at this; cases this
theorem keep_none {h h' : Heap} (k : ∀ b o, h.get? b = some o → h'.get? b = some o) {a : Addr} (e : h'.get? a = none) : h.get? a = none := by
  cases q : h.get? a with
  | none => rfl
  | some o => rw [k _ _ q] at e; cases e
/-- a def of one parameter of which some names are shared with inner blocks -/
theorem Fn.of_defC {f : Addr} {d₁ d : D} {x : Str} {name qual : Str} {params : Arguments} {body : List Stmt} {scope : Scope} {dV kV doc pm cdv ct oc : Value} {an od : Option Addr} {osl : Array (Option Value)}
    (ho : K.lookup f = some ⟨oc, od, .func (fnOf name qual params body scope dV kV doc pm an cdv ct), osl⟩) (hcd : codeIn K cdv qual = true)
    (hb : ∀ v : Value, bindArgs (fnOf name qual params body scope dV kV doc pm an cdv ct) ⟨[v], []⟩ = pure [(x, v)])
    (hkind : scope.names.lookup x = some .local ∨ (scope.names.lookup x = some .cell ∧ ∀ L, ((cellsFrom (L + 1) scope.names []).lookup x).isSome = true))
    (hco : scope.isCoroutine = false) (hgen : scope.isGenerator = false) (hk : scope.kind = .function)
    (h : ∀ s₀ g₀ L, Exs prog w K n s₀ g₀ (envOfC qual scope L f cdv) [(x, d₁)] none body (RetQ s₀ g₀ d)) : Fn prog w K (n + 1) f [d₁] d := fun A s g E vs r G S I => by
  have X : K.In s.heap := G.in S
  cases I with
  | @cons v vs' _ _ I1 I2 =>
  cases I2
  refine wpAny_call (codeAny_call_cells (fd := fnOf name qual params body scope dV kV doc pm an cdv ct) (binds := [(x, v)]) (by have := r.dp; omega) (X _ _ ho) rfl (G.noLimit S) (codeRec_of X hcd) rfl (hb v) rfl
    (fun y hy => by
      rw [List.mem_singleton] at hy; subst hy
      rcases hkind with h | ⟨h1, h2⟩
      · exact .inl h
      · exact .inr ⟨h1, h2 _⟩) (fun s₁ IC => ?_) hco hgen hk)
  refine wpAny_mono (h s g s.heap.objs.size noP _ _ g _ (r.deeper _) ?_) (fun fl s' q => ?_) fun _ _ x => x
  · have hfr := size_none (h := s.heap) (Nat.le_refl _)
    obtain ⟨h1, t1, e1⟩ := IC.toInCall.same
    have hk₀ := IC.toInCall.keep
    refine ⟨⟨h1, t1, e1⟩, hk₀, G, fun a o e => hk₀ a o (S a o e), Le.refl g, fun a o e => .inl e, S.none hfr, hfr, (fun a p e => by cases e), (fun a p e => by cases e), (fun y c hc => ?_), (fun y z c hc hz => ?_), _, IC.toInCall.ns, fun y d' hy => ?_, (fun _ _ e => by cases e)⟩
    · have hl : s.heap.objs.size < c := IC.above y c (mem_of_lookup hc)
      exact ⟨hc, S.none (size_none (Nat.le_of_lt hl)), rfl, size_none (Nat.le_of_lt hl), _, IC.cell y c hc⟩
    · exact name_of_addr IC.apart (mem_of_lookup hc) (mem_of_lookup hz)
    · rw [List.mem_singleton] at hy; cases hy
      refine ⟨v, ?_, I1⟩
      rcases hkind with hl | ⟨hl, h2⟩
      · refine .inl ⟨hl, ?_⟩
        have hl' : (callEnvC (fnOf name qual params body scope dV kV doc pm an cdv ct) s.heap.objs.size f).kindOf x = some .local := hl
        simp [bindL, hl']
      · have hl' : (callEnvC (fnOf name qual params body scope dV kV doc pm an cdv ct) s.heap.objs.size f).kindOf x = some .cell := hl
        obtain ⟨c, hc⟩ := Option.isSome_iff_exists.mp (h2 s.heap.objs.size)
        refine .inr ⟨hl, c, hc, ?_⟩
        have := IC.cell x c hc
        simpa [bindC, hl'] using this
  · obtain ⟨v, rfl, a, b, c⟩ := q
    exact ⟨a, b, c⟩

variable {env : Env} {σ : Sg} {e : Expr} {rest : List Expr} {ds : List D} {d : D} {x : Str} {pos p : Pos}
/-- operations on a list of values -/
def OpV (prog : Program) (w : World) (K : Frag) (n : Nat) (env : Env) (σ : Sg) (t : List Value → Sem Value) (ds : List D) (d : D) : Prop :=
  ∀ A s g E vs, Pre K n env σ A s g → Iss g vs ds → wpAny (model prog w) A (t vs) (Post env.locals s g d) E s

theorem Ev.top {v : Value} (hv : nsIn K mainGlobals x = some (some v)) (hi : ∀ g, Gd K g → Is g v d) (hx : env.kindOf x = some .globalImplicit := by rfl) (hk : env.scope.kind = .function := by rfl) (hg : env.globals = mainGlobals := by rfl)
    (hd : (x == ("__debug__" : Str)) = false := by decide) : Ev prog w K n env σ (.Name x p) d := fun A s g E P => by
  obtain ⟨mg, mb, G1, G2, G3⟩ := P.gd.G
  refine Name_function_global hk hx (loadGlobal_global (env := env) (mg := mg) ?_ (mg_of (P.gd.in P.sub) (G1.ns P.sub) hv) (Post.here P (hi g P.gd) s.toks)) hd
  rw [hg]; exact G1.ns P.sub

theorem Ev.call {f : Addr} (hv : nsIn K mainGlobals x = some (some (.ref f))) (ho : ∃ oc od fd osl, K.lookup f = some ⟨oc, od, .func fd, osl⟩) (ha : Evs prog w K n env σ (e :: rest) ds) (hf : Fn prog w K n f ds d)
    (hx : env.kindOf x = some .globalImplicit := by rfl) (hk : env.scope.kind = .function := by rfl) (hg : env.globals = mainGlobals := by rfl)
    (hd : (x == ("__debug__" : Str)) = false := by decide) (he : starEach (e :: rest) env = (false, eval e env) :: starEach rest env := by rfl) : Ev prog w K n env σ (.Call (.Name x p) (e :: rest) [] pos) d := fun A s g E P => by
  obtain ⟨mg, mb, G1, G2, G3⟩ := P.gd.G
  obtain ⟨oc, od, fd, osl, ho⟩ := ho
  refine Call_ ?_
  refine Name_function_global hk hx (loadGlobal_global (env := env) (mg := mg) ?_ (mg_of (P.gd.in P.sub) (G1.ns P.sub) hv) ?_) hd
  · rw [hg]; exact G1.ns P.sub
  refine callWith_def (o := ⟨oc, od, .func fd, osl⟩) (fd := fd) rfl (he := he) (wpAny_mono (ha A s g E pos P) (fun vs s₁ h₁ => ?_) fun _ _ x => x)
  have P1 := P.next h₁.1
  refine ⟨P1.gd.in P1.sub _ _ ho, wpAny_mono (hf A s₁ _ E vs P1.rm P1.gd P1.sub h₁.2) (fun v s₂ h₂ => ?_) fun _ _ x => x⟩
  obtain ⟨⟨h2, t2, rfl⟩, k2, i2⟩ := h₂
  exact Post.trans P h₁.1 ⟨KL.of_keep k2, i2⟩

theorem Ev.callB {id : String} (hv : nsIn K mainGlobals x = some Option.none) (hb : bootBuiltins x = some (.builtin id)) (ha : Evs prog w K n env σ (e :: rest) ds) (hf : OpV prog w K n env σ (fun vs => PySem.call (.builtin id) vs) ds d)
    (hx : env.kindOf x = some .globalImplicit := by rfl) (hk : env.scope.kind = .function := by rfl) (hg : env.globals = mainGlobals := by rfl) (hbb : env.builtins = builtinsNs := by rfl) (hnn : x ≠ "__name__" := by decide)
    (hd : (x == ("__debug__" : Str)) = false := by decide) (he : starEach (e :: rest) env = (false, eval e env) :: starEach rest env := by rfl) (hplain : ∀ pos, (backTo pos (starEach rest env)).any (·.1) = false := by intro _; rfl) : Ev prog w K n env σ (.Call (.Name x p) (e :: rest) [] pos) d := fun A s g E P => by
  obtain ⟨mg, mb, G1, G2, G3⟩ := P.gd.G
  refine Call_ ?_
  refine Name_function_global hk hx (loadGlobal_builtin (env := env) (mg := mg) (mb := mb) ?_ (mg_none_of (P.gd.in P.sub) (G1.ns P.sub) hv) ?_ ((G3 x hnn).trans hb) ?_) hd
  · rw [hg]; exact G1.ns P.sub
  · rw [hbb]; exact G2.ns P.sub
  refine PyProof.Rows.callWith_builtin1 (he := he) (hplain := hplain pos) (wpAny_mono (ha A s g E pos P) (fun vs s₁ h₁ => wpAny_mono (hf A s₁ _ E vs (P.next h₁.1) h₁.2) (fun v s₂ h₂ => Post.trans P h₁.1 h₂) fun _ _ x => x) fun _ _ x => x)
theorem Ev.callT {T : String} (hv : nsIn K mainGlobals x = some Option.none) (hb : bootBuiltins x = some (.type T)) (ha : Evs prog w K n env σ (e :: rest) ds) (hf : OpV prog w K n env σ (fun vs => PySem.call (.type T) vs) ds d)
    (hx : env.kindOf x = some .globalImplicit := by rfl) (hk : env.scope.kind = .function := by rfl) (hg : env.globals = mainGlobals := by rfl) (hbb : env.builtins = builtinsNs := by rfl) (hnn : x ≠ "__name__" := by decide)
    (hd : (x == ("__debug__" : Str)) = false := by decide) (he : starEach (e :: rest) env = (false, eval e env) :: starEach rest env := by rfl) (hplain : ∀ pos, (backTo pos (starEach rest env)).any (·.1) = false := by intro _; rfl) : Ev prog w K n env σ (.Call (.Name x p) (e :: rest) [] pos) d := fun A s g E P => by
  obtain ⟨mg, mb, G1, G2, G3⟩ := P.gd.G
  refine Call_ ?_
  refine Name_function_global hk hx (loadGlobal_builtin (env := env) (mg := mg) (mb := mb) ?_ (mg_none_of (P.gd.in P.sub) (G1.ns P.sub) hv) ?_ ((G3 x hnn).trans hb) ?_) hd
  · rw [hg]; exact G1.ns P.sub
  · rw [hbb]; exact G2.ns P.sub
  refine PyProof.Rows.callWith_type1 (he := he) (hplain := hplain pos) (wpAny_mono (ha A s g E pos P) (fun vs s₁ h₁ => wpAny_mono (hf A s₁ _ E vs (P.next h₁.1) h₁.2) (fun v s₂ h₂ => Post.trans P h₁.1 h₂) fun _ _ x => x) fun _ _ x => x)

theorem Te.eq {c c' : Bool} (h : Te prog w K n env σ e c) (q : c = c') : Te prog w K n env σ e c' := q ▸ h
theorem Ev.eq {d d' : D} (h : Ev prog w K n env σ e d) (q : d = d') : Ev prog w K n env σ e d' := q ▸ h
end
end Mine
end

section
open PySem PySem.W PyProof.Rows PySem.Calls
set_option Elab.async false
set_option linter.unusedVariables false
namespace Mine

section
variable {prog : Program} {w : World} {K : Frag} {s₀ s s' : Shared} {g₀ g g' : FH} {ρ P P' : PH} {cs : List (Str × Addr)} {env : Env} {σ σ' : Sg} {ω ω' : Om} {n : Nat} {A : Around} {x y : Str} {d : D} {ds : List D} {v : Value} {e : Expr} {es : List Expr} {ss rest body : List Stmt} {Q : PH → Flow → Shared → Prop} {pos p pos' pos'' : Pos}

theorem KL.push {L : Addr} {s : Shared} {o : Obj} {t : Nat} : KL L s { s with heap := s.heap.push o, toks := t } := KL.of_keep fun b o' e => Heap.get?_push_of_some _ e

/-- a list display -/
theorem Ev.list (h : Evs prog w K n env σ es ds) (hl : ds.length ≤ sizeLine) : Ev prog w K n env σ (.List es pos) (.lst ds) := fun A s g E P => by
  refine wpAny_List (wpAny_mono (h A s g E pos P) (fun vs s₁ h₁ => ?_) fun _ _ x => x)
  refine ⟨by rw [h₁.2.length]; exact hl, ?_⟩
  have k : KL env.locals s₁ { s₁ with heap := s₁.heap.push { cls := .type "list", data := .seq vs.toArray } } := KL.push
  refine Post.trans P h₁.1 ⟨k, .lst (n := 0) ?_ ((P.next h₁.1).ups h₁.2 _)⟩
  rw [grow_new (size_none (Nat.le_refl _))]
  exact Heap.get?_push_size _ rfl
theorem Ev.tuple {j : Nat} (h : Evs prog w K n env σ es ds) (hl : ds.length ≤ sizeLine) : Ev prog w K n env σ (.Tuple es j pos) (.tup ds) := fun A s g E P => by
  refine wpAny_Tuple (wpAny_mono (h A s g E pos P) (fun vs s₁ h₁ => ?_) fun _ _ x => x)
  refine ⟨by rw [h₁.2.length]; exact hl, ?_⟩
  have k : KL env.locals s₁ { s₁ with heap := s₁.heap.push { cls := .type "tuple", data := .seq vs.toArray } } := KL.push
  refine Post.trans P h₁.1 ⟨k, .tup (n := 0) ?_ ((P.next h₁.1).ups h₁.2 _)⟩
  rw [grow_new (size_none (Nat.le_refl _))]
  exact Heap.get?_push_size _ rfl

/-- a list of one's own, from here on -/
theorem St.own (S : St K s₀ g₀ ρ cs env σ none s g) {m : Str → Option Value} {a : Addr} {vs : List Value} {nn : Nat} (hm : s.heap.Ns env.locals m) (hv : Var env s.heap m x (.ref a)) (e : s.heap.get? a = some { cls := .type "list", data := .seq vs.toArray nn }) (i : Iss g vs ds) (ga : g a = none) (ra : ρ a = none) (a0 : s₀.heap.get? a = none) :
    St K s₀ g₀ ρ cs env σ (some (x, ds)) s g := by
  obtain ⟨m', hm', hn, ho⟩ := S.loc
  refine ⟨S.st, S.keep, S.gd, S.sub, S.le, S.new, S.nL, S.L0, S.pin, S.sep, S.cells, S.cnd, m', hm', hn, fun y ds' hy => ?_⟩
  cases hy
  cases ns_unique hm hm'
  exact ⟨a, vs, nn, hv, e, i, ga, ra, a0⟩
theorem St.freeze (S : St K s₀ g₀ ρ cs env σ (some (x, ds)) s g) : ∃ g', St K s₀ g₀ ρ cs env ((x, .lst ds) :: σ) none s g' := by
  obtain ⟨m, hm, hn, ho⟩ := S.loc
  obtain ⟨a, vs, nn, hv, e, i, ga, ra, a0⟩ := ho x ds rfl
  have l : Le g (fun b => if b = a then some { cls := .type "list", data := .seq vs.toArray nn } else g b) := fun b o q => by
    show (if b = a then _ else _) = _
    rw [if_neg (by rintro rfl; rw [ga] at q; cases q)]; exact q
  refine ⟨fun b => if b = a then some { cls := .type "list", data := .seq vs.toArray nn } else g b, S.st, S.keep, S.gd.mono l, fun b o q => ?_, S.le.trans l, fun b o q => ?_, ?_, S.L0, S.pin, fun b p q => ?_, fun y c hc => ?_, S.cnd, m, hm, fun y d hy => ?_, (fun _ _ e => by cases e)⟩
  · split at q
    · rename_i h; subst h; cases q; exact e
    · exact S.sub b o q
  · split at q
    · rename_i h; subst h; exact .inr a0
    · exact S.new b o q
  · show (if env.locals = a then _ else _) = _
    rw [if_neg (Ne.symm (list_ne_L e hm))]; exact S.nL
  · refine ⟨?_, (S.sep b p q).2⟩
    show (if b = a then _ else _) = _
    rw [if_neg (by rintro rfl; rw [ra] at q; cases q)]; exact (S.sep b p q).1
  · obtain ⟨c0, c1, c2, c3, vc, hvc⟩ := S.cells y c hc
    refine ⟨c0, ?_, c2, c3, vc, hvc⟩
    show (if c = a then _ else _) = _
    rw [if_neg (Ne.symm (list_ne_cell e hvc))]; exact c1
  · rcases List.mem_cons.mp hy with q | q
    · cases q
      refine ⟨_, hv, .lst (n := nn) ?_ (i.mono l)⟩
      show (if a = a then _ else _) = _
      rw [if_pos rfl]
    · obtain ⟨u, hu, iu⟩ := hn y d q
      exact ⟨u, hu, iu.mono l⟩
/-- the own list changes -/
theorem St.setOwn (S : St K s₀ g₀ ρ cs env σ (some (x, ds)) s g) {m : Str → Option Value} {a : Addr} {vs' : List Value} {ds' : List D} {nn' : Nat} {h' : Heap} {t : Nat} (hm : s.heap.Ns env.locals m) (hv : Var env s.heap m x (.ref a)) (hs : Heap.SameBut a s.heap h') (e' : h'.get? a = some { cls := .type "list", data := .seq vs'.toArray nn' }) (i : Iss g vs' ds') :
    St K s₀ g₀ ρ cs env σ (some (x, ds')) { s with heap := h', toks := t } g := by
  obtain ⟨m', hm', hn, ho⟩ := S.loc
  cases ns_unique hm hm'
  obtain ⟨a', vs, nn, hv', e, _, ga, ra, a0⟩ := ho x ds rfl
  cases var_same hv hv'
  have aL := list_ne_L e hm
  have up : ∀ b o, b ≠ a → s.heap.get? b = some o → h'.get? b = some o := fun b o nb e => (hs.2 b nb).trans e
  have upC : ∀ c v, s.heap.IsCell c v → h'.IsCell c v := fun c v hc => by
    have := list_ne_cell e hc
    obtain ⟨oc, ec, dc⟩ := hc
    exact ⟨oc, up _ _ (Ne.symm this) ec, dc⟩
  have var : ∀ y u, Var env s.heap m y u → Var env h' m y u := fun y u hv => by
    rcases hv with h1 | ⟨a, c', b, hc'⟩
    · exact .inl h1
    · exact .inr ⟨a, c', b, upC _ _ hc'⟩
  refine ⟨?_, fun b o eb => up b o ?_ (S.keep b o eb), S.gd, fun b o eb => up b o ?_ (S.sub b o eb), S.le, S.new, S.nL, S.L0, fun b p eb => ?_, S.sep, fun y c hc => ?_, S.cnd, m, hm.sameBut hs (Ne.symm aL), fun y dy hy => ?_, fun y ds2 hy => ?_⟩
  · obtain ⟨h1, t1, rfl⟩ := S.st; exact ⟨_, _, rfl⟩
  · rintro rfl; rw [a0] at eb; cases eb
  · rintro rfl; rw [ga] at eb; cases eb
  · obtain ⟨o, eo, po⟩ := S.pin b p eb
    exact ⟨o, up b o (by rintro rfl; rw [ra] at eb; cases eb) eo, po⟩
  · obtain ⟨d0, d1, d2, d3, vc, hvc⟩ := S.cells y c hc
    exact ⟨d0, d1, d2, d3, vc, upC _ _ hvc⟩
  · obtain ⟨u, hu, iu⟩ := hn y dy hy
    exact ⟨u, var y u hu, iu⟩
  · cases hy
    exact ⟨a, vs', nn', var _ _ hv, e', i, ga, ra, a0⟩

/-- a new list under a local name -/
theorem Exs.own (he : Evs prog w K n env σ es ds) (hl : ds.length ≤ sizeLine) (h : Exs prog w K n s₀ g₀ env (Sg.drop x σ) (some (x, ds)) rest Q)
    (hx : env.kindOf x = some .local := by rfl) (hp : (env.scope.kind == .class || (env.scope.kind == .module && env.locals != env.globals)) = false := by rfl)
    (hs : swapsWith (.List es pos') (some (.Name x p)) pos.line env = pure false := by rfl) : Exs prog w K n s₀ g₀ env σ none (.Assign [.Name x p] (.List es pos') pos :: rest) Q := fun ρ A s g E r S => by
  refine wpAny_execs_cons (wpAny_Assign_Name (hs := hs) (wpAny_List (wpAny_mono (he A s g E pos' (S.pre r)) (fun vs s₁ h₁ => ?_) fun _ _ x => x)))
  refine ⟨by rw [h₁.2.length]; exact hl, ?_⟩
  have S1 := S.next h₁.1
  have k : KL env.locals s₁ { s₁ with heap := s₁.heap.push { cls := .type "list", data := .seq vs.toArray } } := KL.push
  have S2 := S1.stay k
  have fr := size_none (h := s₁.heap) (Nat.le_refl _)
  have nw : (s₁.heap.push { cls := .type "list", data := .seq vs.toArray }).get? s₁.heap.objs.size = some { cls := .type "list", data := .seq vs.toArray } := Heap.get?_push_size _ rfl
  obtain ⟨m, hm, _⟩ := S2.loc
  refine wpAny_storeName_local hx hm (fun h' hm' hsb => ?_) hp
  have aL := list_ne_L nw hm
  have up : ∀ b o, b ≠ env.locals → (s₁.heap.push { cls := .type "list", data := .seq vs.toArray }).get? b = some o → h'.get? b = some o := fun b o nb e => (hsb.2 b nb).trans e
  have S3 := S2.storedAt (s' := { s₁ with heap := h', toks := s₁.toks + 1 }) (v := .ref s₁.heap.objs.size) ⟨_, _, rfl⟩ up (fun m2 hm2 => by cases ns_unique hm hm2; exact hm') (Le.refl _) (fun a o ea => up a o (by rintro rfl; rw [S2.nL] at ea; cases ea) (S2.sub a o ea)) (fun a o e => .inl e) [] (fun p hp => by cases hp) hx (fun _ _ e => by cases e)
  refine h ρ A _ _ E r (S3.own (x := x) hm' (.inl ⟨hx, if_pos rfl⟩) (up _ _ aL nw) h₁.2 (S1.sub.none fr) ?_ ?_)
  · cases q : ρ s₁.heap.objs.size with
    | none => rfl
    | some p =>
      obtain ⟨o, eo, _⟩ := S1.pin _ p q
      rw [fr] at eo; cases eo
  · exact keep_none S1.keep fr

theorem Exs.freeze (h : Exs prog w K n s₀ g₀ env ((x, .lst ds) :: σ) none rest Q) : Exs prog w K n s₀ g₀ env σ (some (x, ds)) rest Q := fun ρ A s g E r S => by
  obtain ⟨g', S'⟩ := S.freeze
  exact h ρ A s g' E r S'

theorem St.evalOwn {R : Value → Shared → Prop} {E : Value → Shared → Prop} (S : St K s₀ g₀ ρ cs env σ (some (x, ds)) s g)
    (h : ∀ m a vs nn, s.heap.Ns env.locals m → Var env s.heap m x (.ref a) → s.heap.get? a = some { cls := .type "list", data := .seq vs.toArray nn } → Iss g vs ds → R (.ref a) s)
    (hk : env.scope.kind = .function := by rfl) (hd : (x == ("__debug__" : Str)) = false := by decide) : wpAny (model prog w) A (eval (.Name x p) env) R E s := by
  obtain ⟨m, hm, _, ho⟩ := S.loc
  obtain ⟨a, vs, nn, hv, e, i, _⟩ := ho x ds rfl
  refine wpAny_Name ?_ hd
  rcases hv with ⟨h1, h2⟩ | ⟨h1, c, h2, h3⟩
  · exact wpAny_loadName_local hk h1 hm h2 (h m a vs nn hm (.inl ⟨h1, h2⟩) e i)
  · exact wpAny_loadName_cell hk h1 h2 h3 (h m a vs nn hm (.inr ⟨h1, c, h2, h3⟩) e i)

/-- x.append(e) on the own list -/
theorem Exs.append {apos : Pos} (he : Ev prog w K n env σ e d) (hl : ds.length < sizeLine) (h : Exs prog w K n s₀ g₀ env σ (some (x, ds ++ [d])) rest Q)
    (hbase : attributeBase (.Name x p) "append" env (eval (.Name x p) env) = eval (.Name x p) env := by rfl)
    (hfew : ((backTo pos' (starEach [e] env)).all (fun x => !x.1) && (backToKw pos' (keywordEach [] env)).all (fun x => x.1.isSome)
      && decide (([e] : List Expr).length + ([] : List Keyword).length + (if ([] : List Keyword).isEmpty then 0 else 1) < 30)) = true := by rfl)
    (hline : (apos.endLine == pos'.line) = true := by rfl)
    (htrees : backTo pos' (starEach [e] env) = [(false, eval e env)] := by rfl)
    (hi : interactive env = false := by rfl) (hs : swapsWith (.Call (.Attribute (.Name x p) "append" apos) [e] [] pos') none pos.line env = pure false := by rfl)
    (hk : env.scope.kind = .function := by rfl) (hd : (x == ("__debug__" : Str)) = false := by decide) :
    Exs prog w K n s₀ g₀ env σ (some (x, ds)) (.Expr (.Call (.Attribute (.Name x p) "append" apos) [e] [] pos') pos :: rest) Q := fun ρ A s g E r S => by
  refine wpAny_execs_cons (wpAny_Expr (hi := hi) (hs := hs) (wpAny_Call_append hbase hfew hline htrees (S.evalOwn (hk := hk) (hd := hd) fun m a vs nn hm hv ea i => ?_)))
  refine ⟨a, vs.toArray, rfl, ⟨_, nn, ea, rfl, rfl, rfl⟩, wpAny_mono (he A s g E (S.pre r)) (fun u s₁ h₁ => ?_) fun _ _ x => x⟩
  have S1 := S.next h₁.1
  have e1 := h₁.1.keep (list_ne_L ea hm) ea
  refine wpAny_list_append_plain ⟨nn, e1⟩ (hsz := by rw [List.size_toArray, i.length]; omega) fun h' hp' hsb => ?_
  obtain ⟨n', e'⟩ := hp'
  have S2 := S1.setOwn (t := s₁.toks) (vs' := vs ++ [u]) (nn' := n') (ds' := ds ++ [d]) (h₁.1.ns hm) (hv.mono h₁.1 hm) hsb (by rw [e']; simp) (((i.mono (S.sub.le_grow _)).append' (.cons h₁.2 .nil)))
  show wpAny (model prog w) A (execs rest env) (Q ρ) E _
  exact h ρ A _ _ E r S2

/-- x[i] op= e on the own list -/
theorem Exs.augAt {i : Expr} {op : Operator} {k : Int} {d₀ d₁ : D} (hi : Ev prog w K n env σ i (.int k)) (he : Ev prog w K n env σ e d) (h0 : 0 ≤ k) (hd₀ : ds[k.toNat]? = some d₀) (hfit : k < 2 ^ 63) (hop : Op2 prog w K n env σ (inplaceOp op) d₀ d d₁)
    (h : Exs prog w K n s₀ g₀ env σ (some (x, ds.set k.toNat d₁)) rest Q)
    (ha : ∀ ov iv new, augStore i ov iv new = (do holding [new, ov, iv] (setItem ov iv new); release [new, ov, iv] []; pure .next) := by intros; rfl)
    (hk : env.scope.kind = .function := by rfl) (hd : (x == ("__debug__" : Str)) = false := by decide) :
    Exs prog w K n s₀ g₀ env σ (some (x, ds)) (.AugAssign (.Subscript (.Name x p) i pos') op e pos :: rest) Q := fun ρ A s g E r S => by
  refine wpAny_execs_cons (wpAny_AugAssign_SubscriptAny (hi := ha) (S.evalOwn (hk := hk) (hd := hd) fun m a vs nn hm hv ea is => ?_))
  refine wpAny_mono (hi A s g E (S.pre r)) (fun u s₁ h₁ => ?_) fun _ _ x => x
  have S1 := S.next h₁.1
  have ea1 := h₁.1.keep (list_ne_L ea hm) ea
  have hm1 := h₁.1.ns hm
  have is1 := is.mono (S.sub.le_grow s₁.heap)
  have hv1 := hv.mono h₁.1 hm
  cases h₁.2 with
  | int _ t =>
  obtain ⟨v0, hv0, i0⟩ := is1.get _ _ hd₀
  refine wpAny_getItem_list ⟨_, ea1, rfl, _, rfl⟩ h0 hfit (x := v0) (by simpa using hv0) ?_
  refine wpAny_mono (he A s₁ _ E (S1.pre r)) (fun u2 s₂ h₂ => ?_) fun _ _ x => x
  have S2 := S1.next h₂.1
  have ea2 := h₂.1.keep (list_ne_L ea1 hm1) ea1
  have hm2 := h₂.1.ns hm1
  have hv2 := hv1.mono h₂.1 hm1
  have is2 := is1.mono (S1.sub.le_grow s₂.heap)
  refine wpAny_mono (hop A s₂ _ E _ _ (S2.pre r) (i0.mono (S1.sub.le_grow _)) h₂.2) (fun u3 s₃ h₃ => ?_) fun _ _ x => x
  have S3 := S2.next h₃.1
  have ea3 := h₃.1.keep (list_ne_L ea2 hm2) ea2
  have hm3 := h₃.1.ns hm2
  have hv3 := hv2.mono h₃.1 hm2
  have is3 := is2.mono (S2.sub.le_grow s₃.heap)
  have hlen : k < (vs.toArray.size : Int) := by
    have := is.length
    have h2 := (List.getElem?_eq_some_iff.mp hd₀).1
    rw [List.size_toArray]; omega
  refine W.ki_setAt (n := nn) ea3 h0 hfit hlen ?_
  have e' := PySem.IsL.update ea3 (·.setIfInBounds k.toNat u3)
  have el : vs.toArray.setIfInBounds k.toNat u3 = (vs.set k.toNat u3).toArray := by simp
  rw [el] at e'
  exact h ρ A _ _ E r (S3.setOwn (t := s₃.toks) hm3 hv3 (Heap.SameBut.update ..) e' (is3.set h₃.2 _))

/-- an iterator: what it hands out, what of the heap it turns -/
structure Walk (prog : Program) (w : World) (t : Expr) (it : Value) (P : Nat → PH) (ds : List D) (g : FH) : Prop where
  dom : ∀ i a, P i a = none ↔ P (i + 1) a = none
  item : ∀ A s E i d g', Le g g' → A.handled = none → Sub g' s.heap → Pin (P i) s.heap → ds[i]? = some d →
    wpAny (model prog w) A (pyNext it) (fun r s₁ => ∃ v, r = some v ∧ wpAny (model prog w) A (letOwnedTupleGo t it v) (fun _ s₂ => (∃ h tk, s₂ = { s with heap := h, toks := tk }) ∧ (∀ b o, P i b = none → s.heap.get? b = some o → s₂.heap.get? b = some o) ∧ Pin (P (i + 1)) s₂.heap ∧ Is (grow g' s.heap s₂.heap) v d) E s₁) E s
  done : ∀ A s E g', Le g g' → A.handled = none → Sub g' s.heap → Pin (P ds.length) s.heap →
    wpAny (model prog w) A (pyNext it) (fun r s₁ => r = none ∧ (∃ h tk, s₁ = { s with heap := h, toks := tk }) ∧ (∀ b o, P ds.length b = none → s.heap.get? b = some o → s₁.heap.get? b = some o)) E s
  self : ∀ A s E i (Q : Value → Shared → Prop), Pin (P i) s.heap → Q it s → wpAny (model prog w) A (pyIter it) Q E s

theorem Walk.dom0 {t : Expr} {it : Value} {P : Nat → PH} (W : Walk prog w t it P ds g) : ∀ i a, P 0 a = none ↔ P i a = none
  | 0, a => Iff.rfl
  | i + 1, a => (W.dom0 i a).trans (W.dom i a)

theorem letGo_list {t : Expr} {I : Addr} {v : Value} {R : Unit → Shared → Prop} {E : Value → Shared → Prop} {o : Obj} {c : String} {vs : Array Value} (ho : s.heap.get? I = some o) (hc : o.cls = .type c) (hd : o.data = .fields vs) (hn : ["enumerate", "zip", "dict_itemiterator", "dict_reverseitemiterator", "odict_iterator", "itertools.zip_longest", "itertools.pairwise"].contains c = false) (h : R () s) : wpAny (model prog w) A (letOwnedTupleGo t (.ref I) v) R E s := by
  obtain ⟨oc, od, odt, osl⟩ := o
  replace hc : oc = .type c := hc
  replace hd : odt = .fields vs := hd
  subst hc hd
  cases t <;> first
    | exact wpAny_pure h
    | (cases v <;> first
        | exact wpAny_pure h
        | (unfold letOwnedTupleGo
           refine wpAny_bind (wpAny_load ho ?_)
           dsimp only
           rw [hn]
           simp only [Bool.false_and, Bool.false_eq_true, if_false]
           exact wpAny_pure h))

def liP (a I : Addr) (i : Nat) : PH := one I fun o => o.cls = .type "list_iterator" ∧ o.data = .fields #[.ref a, .int i 0]
theorem Walk.list {a I : Addr} {vs : List Value} {nn : Nat} (ha : g a = some { cls := .type "list", data := .seq vs.toArray nn }) (i : Iss g vs ds) (hne : a ≠ I) {t : Expr} : Walk prog w t (.ref I) (liP a I) ds g where
  dom := fun i b => by unfold liP one; split <;> simp
  item := fun A s E j d g' l hh sb hp hd => by
    obtain ⟨v, hv, iv⟩ := i.get j d hd
    obtain ⟨o, eo, ⟨oc, od⟩, _⟩ := hp I _ one_self
    have hl : s.heap.IsList a vs.toArray := ⟨_, sb _ _ (l _ _ ha), rfl, _, rfl⟩
    refine wpAny_pyNext_list_item ⟨o, eo, oc, od⟩ hl (x := v) (by simpa using hv) fun h' hit' hs => ⟨v, rfl, ?_⟩
    obtain ⟨o', eo', oc', od'⟩ := hit'
    refine letGo_list (s := { s with heap := h' }) eo' oc' od' (by decide) ⟨⟨_, _, rfl⟩, fun b ob hb e => (hs.2 b ?_).trans e, fun b p hb => ?_, (iv.mono l).mono (sb.le_grow _)⟩
    · rintro rfl; rw [liP, one_self] at hb; cases hb
    · obtain ⟨rfl, rfl⟩ := one_some hb
      exact ⟨o', eo', ⟨oc', od'⟩, fun v h => by rw [od'] at h; cases h⟩
  done := fun A s E g' l hh sb hp => by
    obtain ⟨o, eo, ⟨oc, od⟩, _⟩ := hp I _ one_self
    have hl : s.heap.IsList a vs.toArray := ⟨_, sb _ _ (l _ _ ha), rfl, _, rfl⟩
    refine wpAny_pyNext_list_end hh ⟨o, eo, oc, od⟩ hl (by simp [i.length]) fun h' hs => ⟨rfl, ⟨_, _, rfl⟩, fun b ob hb e => hs b ob ?_ e⟩
    rintro rfl; rw [liP, one_self] at hb; cases hb
  self := fun A s E j Q hp q => by
    obtain ⟨o, eo, ⟨oc, od⟩, _⟩ := hp I _ one_self
    exact wpAny_pyIter_listiter ⟨o, eo, oc, od⟩ q

def riP (n : Nat) (I : Addr) (i : Nat) : PH := one I fun o => o = { cls := .type "range_iterator", dict := none, data := .fields #[rawInt i, rawInt ((n : Int) - i), rawInt 1], slots := #[] }
def upto (n : Nat) : List D := (List.range n).map (fun i : Nat => D.int (i : Int))
theorem upto_get {n i : Nat} {d : D} (h : (upto n)[i]? = some d) : i < n ∧ d = .int i := by
  unfold upto at h
  rw [List.getElem?_map] at h
  cases q : (List.range n)[i]? with
  | none => rw [q] at h; cases h
  | some j =>
    rw [q] at h; cases h
    obtain ⟨h1, h2⟩ := List.getElem?_eq_some_iff.mp q
    rw [List.length_range] at h1
    rw [List.getElem_range] at h2
    subst h2
    exact ⟨h1, rfl⟩
theorem take_int {l : List Int} {i : Nat} {x : Int} (h : l[i]? = some x) : (l.take (i + 1)).map D.int = (l.take i).map D.int ++ [D.int x] := by
  rw [List.take_add_one, h, List.map_append]; rfl
theorem take_map {α β : Type} {f : α → β} {l : List α} {i : Nat} {x : α} (h : l[i]? = some x) : (l.take (i + 1)).map f = (l.take i).map f ++ [f x] := by
  rw [List.take_add_one, h, List.map_append]; rfl
theorem range_map_get {α : Type} {f : Nat → α} {n i : Nat} (h : i < n) : ((List.range n).map f)[i]? = some (f i) := by
  rw [List.getElem?_map, List.getElem?_range h]; rfl
theorem upto_length (n : Nat) : (upto n).length = n := by simp [upto]
theorem Walk.range {I : Addr} {n : Nat} {t : Expr} : Walk prog w t (.ref I) (riP n I) (upto n) g where
  dom := fun i b => by unfold riP one; split <;> simp
  item := fun A s E j d g' l hh sb hp hd => by
    obtain ⟨hj, rfl⟩ := upto_get hd
    obtain ⟨o, eo, rfl, _⟩ := hp I _ one_self
    refine wpAny_pyNext_range_item eo (by omega) fun h' hit' hs => ⟨_, rfl, ?_⟩
    refine letGo_list (s := { s with heap := h', toks := s.toks + 1 }) hit' rfl rfl (by decide) ⟨⟨_, _, rfl⟩, fun b ob hb e => (hs.2 b ?_).trans e, fun b p hb => ?_, .int _ _⟩
    · rintro rfl; rw [riP, one_self] at hb; cases hb
    · obtain ⟨rfl, rfl⟩ := one_some hb
      refine ⟨_, hit', ?_, fun v h => by cases h⟩
      have e1 : ((j + 1 : Nat) : Int) = (j : Int) + 1 := by omega
      have e2 : (n : Int) - ((j + 1 : Nat) : Int) = (n : Int) - (j : Int) - 1 := by omega
      rw [e2, e1]
  done := fun A s E g' l hh sb hp => by
    rw [upto_length] at hp ⊢
    obtain ⟨o, eo, rfl, _⟩ := hp I _ one_self
    refine wpAny_pyNext_range_end hh eo (by omega) fun h' hs => ⟨rfl, ⟨_, _, rfl⟩, fun b ob hb e => hs b ob ?_ e⟩
    rintro rfl; rw [riP, one_self] at hb; cases hb
  self := fun A s E j Q hp q => by
    obtain ⟨o, eo, rfl, _⟩ := hp I _ one_self
    exact wpAny_pyIter_rangeiter eo q

/-- iterables -/
def Itb (prog : Program) (w : World) (K : Frag) (n : Nat) (env : Env) (σ : Sg) (t e : Expr) (ds : List D) : Prop :=
  ∀ A s g E, Pre K n env σ A s g → wpAny (model prog w) A (eval e env) (fun x s₁ => wpAny (model prog w) A (pyIter x) (fun it s₂ => ∃ sm P, KL env.locals s sm ∧ Keeps sm s₂ ∧ Walk prog w t it P ds (grow g s.heap sm.heap) ∧ Pin (P 0) s₂.heap ∧ ∀ a p, P 0 a = some p → sm.heap.get? a = none) E s₁) E s

theorem Itb.list {t : Expr} (h : Ev prog w K n env σ e (.lst ds)) : Itb prog w K n env σ t e ds := fun A s g E P => by
  refine wpAny_mono (h A s g E P) (fun x s₁ h₁ => ?_) fun _ _ x => x
  obtain ⟨k, i⟩ := h₁
  have P1 := P.next k
  cases i with
  | @lst a na vs _ ha ra =>
  have hl : s₁.heap.IsList a vs.toArray := ⟨_, P1.sub _ _ ha, rfl, _, rfl⟩
  refine wpAny_pyIter_list hl ?_
  refine ⟨s₁, liP a s₁.heap.objs.size, k, ⟨_, _, rfl, fun b o e => Heap.get?_push_of_some _ e⟩, Walk.list ha ra ?_, fun b p hb => ?_, fun b p hb => ?_⟩
  · have := Heap.lt_size (P1.sub _ _ ha); exact Nat.ne_of_lt this
  · obtain ⟨rfl, rfl⟩ := one_some hb
    exact ⟨_, Heap.get?_push_size _ rfl, ⟨rfl, rfl⟩, fun v h => by cases h⟩
  · obtain ⟨rfl, rfl⟩ := one_some hb
    exact size_none (Nat.le_refl _)
theorem rangeSize_01 (n : Int) : Builtin.Range.rangeSize 0 n 1 = (n.toNat : Int) := by
  unfold Builtin.Range.rangeSize
  split
  · split
    · rw [Int.ediv_one]; omega
    · omega
  · omega
theorem Itb.range {m : Int} {t : Expr} (h : Ev prog w K n env σ e (.rng m)) (hm : m < 2 ^ 62 ∧ - 2 ^ 62 < m) : Itb prog w K n env σ t e (upto m.toNat) := fun A s g E P => by
  refine wpAny_mono (h A s g E P) (fun x s₁ h₁ => ?_) fun _ _ x => x
  obtain ⟨k, i⟩ := h₁
  have P1 := P.next k
  cases i with
  | @rng a _ t1 u v ha =>
  refine wpAny_pyIter_range (P1.sub _ _ ha) ?_ ?_
  · unfold Builtin.Range.small
    rw [rangeSize_01]
    unfold Builtin.Range.rangeFitsLong
    simp
    omega
  refine ⟨s₁, riP m.toNat s₁.heap.objs.size, k, ⟨_, _, rfl, fun b o e => Heap.get?_push_of_some _ e⟩, Walk.range, fun b p hb => ?_, fun b p hb => ?_⟩
  · obtain ⟨rfl, rfl⟩ := one_some hb
    refine ⟨_, Heap.get?_push_size _ rfl, ?_, fun v h => by cases h⟩
    rw [rangeSize_01]; simp [rawInt]
  · obtain ⟨rfl, rfl⟩ := one_some hb
    exact size_none (Nat.le_refl _)

def enumD : Nat → List D → List D
  | _, [] => []
  | k, d :: ds => .tup [.int (k : Int), d] :: enumD (k + 1) ds
theorem enumD_length : ∀ (ds : List D) (k : Nat), (enumD k ds).length = ds.length
  | [], _ => rfl
  | _ :: ds, k => congrArg (· + 1) (enumD_length ds (k + 1))
theorem enumD_get : ∀ (ds : List D) (k i : Nat) (x : D), (enumD k ds)[i]? = some x → ∃ d, ds[i]? = some d ∧ x = .tup [.int ((k + i : Nat) : Int), d]
  | [], _, i, x, h => by simp [enumD] at h
  | d :: ds, k, 0, x, h => by
    simp only [enumD, List.getElem?_cons_zero] at h
    cases h
    exact ⟨d, rfl, by simp⟩
  | d :: ds, k, i + 1, x, h => by
    simp only [enumD, List.getElem?_cons_succ] at h
    obtain ⟨d', h1, h2⟩ := enumD_get ds (k + 1) i x h
    refine ⟨d', by simpa using h1, ?_⟩
    rw [h2]
    congr 4
    omega

def enP (a it e : Addr) (i : Nat) : PH := fun b => if b = e then some (fun o => ∃ old, o = { cls := .type "enumerate", dict := none, data := .fields #[.none, .bool false, .ref it, rawInt (i : Int), .none, old], slots := #[] }) else liP a it i b
theorem Walk.enum {a I e : Addr} {vs : List Value} {nn : Nat} {elts : List Expr} {x1 : Nat} {pos : Pos} (ha : g a = some { cls := .type "list", data := .seq vs.toArray nn }) (r : Iss g vs ds) (hI : a ≠ I) (he : a ≠ e) (hne : e ≠ I) : Walk prog w (.Tuple elts x1 pos) (.ref e) (enP a I e) (enumD 0 ds) g where
  dom := fun i b => by unfold enP liP one; split <;> (try split) <;> simp
  item := fun A s E j d g' l hh sb hp hd => by
    obtain ⟨d', hd', rfl⟩ := enumD_get ds 0 j d hd
    obtain ⟨v, hv, iv⟩ := r.get j d' hd'
    obtain ⟨o1, e1, ⟨old, rfl⟩, _⟩ := hp e _ (if_pos rfl)
    obtain ⟨o2, e2, ⟨oc, od⟩, _⟩ := hp I _ ((if_neg (Ne.symm hne)).trans one_self)
    have hl : s.heap.IsList a vs.toArray := ⟨_, sb _ _ (l _ _ ha), rfl, _, rfl⟩
    refine wpAny_pyNext_enum_item e1 ⟨o2, e2, oc, od⟩ hl (x := v) (by simpa using hv) hne fun h' heo hit' htup hsz keep => ⟨_, rfl, ?_⟩
    refine wpAny_letOwnedTupleGo_enum heo fun h2 he2 hs2 => ?_
    obtain ⟨o', eo', oc', od'⟩ := hit'
    have hT : e ≠ s.heap.objs.size := Nat.ne_of_lt (Heap.lt_size e1)
    refine ⟨⟨_, _, rfl⟩, fun b ob hb eb => (hs2.2 b ?_).trans (keep b ob ?_ ?_ eb), fun b p hb => ?_, .tup (n := 0) (vs := [.int (j : Int) s.toks, v]) ?_ (.cons ?_ (.cons ((iv.mono l).mono (sb.le_grow _)) .nil))⟩
    · rintro rfl; rw [enP, if_pos rfl] at hb; cases hb
    · rintro rfl; rw [enP, if_pos rfl] at hb; cases hb
    · rintro rfl; rw [enP, if_neg (Ne.symm hne), liP, one_self] at hb; cases hb
    · unfold enP at hb
      split at hb
      · rename_i q; subst q; cases hb
        exact ⟨_, he2, ⟨v, by simp⟩, fun v h => by cases h⟩
      · obtain ⟨rfl, rfl⟩ := one_some hb
        exact ⟨o', (hs2.2 b (Ne.symm hne)).trans eo', ⟨oc', od'⟩, fun v h => by rw [od'] at h; cases h⟩
    · rw [grow_new (size_none (Nat.le_refl _))]
      exact (hs2.2 _ (Ne.symm hT)).trans htup
    · rw [Nat.zero_add]; exact .int _ _
  done := fun A s E g' l hh sb hp => by
    rw [enumD_length] at hp ⊢
    obtain ⟨o1, e1, ⟨old, rfl⟩, _⟩ := hp e _ (if_pos rfl)
    obtain ⟨o2, e2, ⟨oc, od⟩, _⟩ := hp I _ ((if_neg (Ne.symm hne)).trans one_self)
    have hl : s.heap.IsList a vs.toArray := ⟨_, sb _ _ (l _ _ ha), rfl, _, rfl⟩
    refine wpAny_pyNext_enum_end hh e1 ⟨o2, e2, oc, od⟩ hl (by simp [r.length]) fun h' hs => ⟨rfl, ⟨_, _, rfl⟩, fun b ob hb eb => hs b ob ?_ eb⟩
    rintro rfl; rw [enP, if_neg (Ne.symm hne), liP, one_self] at hb; cases hb
  self := fun A s E j Q hp q => by
    obtain ⟨o1, e1, ⟨old, rfl⟩, _⟩ := hp e _ (if_pos rfl)
    exact wpAny_pyIter_enum e1 q

theorem Itb.enum {x : Str} {arg : Expr} {elts : List Expr} {x1 : Nat} (hv : nsIn K mainGlobals x = some Option.none) (hb : bootBuiltins x = some (.type "enumerate")) (ha : Ev prog w K n env σ arg (.lst ds))
    (hx : env.kindOf x = some .globalImplicit := by rfl) (hk : env.scope.kind = .function := by rfl) (hg : env.globals = mainGlobals := by rfl) (hbb : env.builtins = builtinsNs := by rfl) (hnn : x ≠ "__name__" := by decide)
    (hd : (x == ("__debug__" : Str)) = false := by decide) (he : starEach [arg] env = (false, eval arg env) :: starEach [] env := by rfl) : Itb prog w K n env σ (.Tuple elts x1 pos') (.Call (.Name x p) [arg] [] pos) (enumD 0 ds) := fun A s g E P => by
  obtain ⟨mg, mb, G1, G2, G3⟩ := P.gd.G
  refine Call_ ?_
  refine Name_function_global hk hx (loadGlobal_builtin (env := env) (mg := mg) (mb := mb) ?_ (mg_none_of (P.gd.in P.sub) (G1.ns P.sub) hv) ?_ ((G3 x hnn).trans hb) ?_) hd
  · rw [hg]; exact G1.ns P.sub
  · rw [hbb]; exact G2.ns P.sub
  refine PyProof.Rows.callWith_type1 (he := he) (hplain := rfl) ((Evs.cons ha Evs.nil he) A s g E pos P |> fun q => wpAny_mono q (fun us s₁ h₁ => ?_) fun _ _ x => x)
  obtain ⟨k, is⟩ := h₁
  have P1 := P.next k
  cases is with
  | cons i r =>
  cases r
  cases i with
  | @lst a na vs _ ha ra =>
  have hl : s₁.heap.IsList a vs.toArray := ⟨_, P1.sub _ _ ha, rfl, _, rfl⟩
  have hlt := Heap.lt_size (P1.sub _ _ ha)
  refine call_enumerate_list hl fun h' he' hit' hsz keep => ?_
  refine wpAny_pyIter_enum he' ?_
  obtain ⟨o2, e2, oc, od⟩ := hit'
  refine ⟨s₁, enP a s₁.heap.objs.size (s₁.heap.objs.size + 1), k, ⟨_, _, rfl, keep⟩, Walk.enum ha ra (Nat.ne_of_lt hlt) (Nat.ne_of_lt (Nat.lt_succ_of_lt hlt)) (Nat.succ_ne_self _), fun b p hb => ?_, fun b p hb => ?_⟩
  · unfold enP at hb
    split at hb
    · rename_i q; subst q; cases hb
      exact ⟨_, he', ⟨.none, rfl⟩, fun v h => by cases h⟩
    · obtain ⟨rfl, rfl⟩ := one_some hb
      exact ⟨o2, e2, ⟨oc, od⟩, fun v h => by rw [od] at h; cases h⟩
  · unfold enP at hb
    split at hb
    · rename_i q; subst q; exact size_none (Nat.le_succ _)
    · obtain ⟨rfl, rfl⟩ := one_some hb
      exact size_none (Nat.le_refl _)
end
end Mine
end

section
open PySem PySem.W PyProof.Rows PySem.Calls
set_option Elab.async false
set_option linter.unusedVariables false
namespace Mine

/-- binding a target -/
def Asg (prog : Program) (w : World) (K : Frag) (cs : Shared → List (Str × Addr)) (env : Env) (t : Expr) (d : D) (bd : Sg → Sg) (ω : Om) : Prop :=
  ∀ s₀ g₀ ρ σ A s g E v, A.handled = none → St K s₀ g₀ ρ (cs s₀) env σ ω s g → Is g v d →
    wpAny (model prog w) A (assign t env v) (fun _ s' => ∃ g', Le g g' ∧ St K s₀ g₀ ρ (cs s₀) env (bd σ) ω s' g') E s

section
variable {prog : Program} {w : World} {K : Frag} {s₀ s s' : Shared} {g₀ g g' g₁ : FH} {ρ : PH} {P : Nat → PH} {cs : List (Str × Addr)} {csf : Shared → List (Str × Addr)} {env : Env} {σ σ' : Sg} {ω ω' : Om} {n : Nat} {A : Around} {x y : Str} {d : D} {ds : List D} {v it : Value} {e iter target : Expr} {es : List Expr} {ss rest body : List Stmt} {Q : PH → Flow → Shared → Prop} {pos p p1 p2 pos' pos'' : Pos}

def bd1 (x : Str) (d : D) : Sg → Sg := fun σ => (x, d) :: Sg.drop x σ
theorem Asg.name (hx : env.kindOf x = some .local := by rfl) (hp : (env.scope.kind == .class || (env.scope.kind == .module && env.locals != env.globals)) = false := by rfl) (ho : freeOf x ω := by first | exact True.intro | (show (_ : Str) ≠ _; decide)) :
    Asg prog w K csf env (.Name x p) d (bd1 x d) ω := fun s₀ g₀ ρ σ A s g E v hh S i => by
  exact wpAny_assign_Name (S.store i hx hp ho.no fun s' S' => ⟨g, Le.refl g, S'⟩)
theorem Asg.cell (hc : ∀ s₀, ∃ c, (csf s₀).lookup x = some c) (hx : env.kindOf x = some .cell := by rfl) (hk : env.scope.kind = .function := by rfl) (ho : freeOf x ω := by first | exact True.intro | (show (_ : Str) ≠ _; decide)) :
    Asg prog w K csf env (.Name x p) d (bd1 x d) ω := fun s₀ g₀ ρ σ A s g E v hh S i => by
  obtain ⟨c, hc⟩ := hc s₀
  exact wpAny_assign_Name (S.storeC i hk hx hc ho.no fun s' S' => ⟨g, Le.refl g, S'⟩)
theorem Asg.pair {x1 : Nat} {d₁ d₂ : D} (hx : env.kindOf x = some .local := by rfl) (hy : env.kindOf y = some .local := by rfl) (hp : (env.scope.kind == .class || (env.scope.kind == .module && env.locals != env.globals)) = false := by rfl)
    (ho : freeOf x ω := by first | exact True.intro | (show (_ : Str) ≠ _; decide)) (ho2 : freeOf y ω := by first | exact True.intro | (show (_ : Str) ≠ _; decide)) :
    Asg prog w K csf env (.Tuple [.Name x p1, .Name y p2] x1 p) (.tup [d₁, d₂]) (fun σ => bd1 y d₂ (bd1 x d₁ σ)) ω := fun s₀ g₀ ρ σ A s g E v hh S i => by
  cases i with
  | @tup a nn vs _ ha ra =>
  cases ra with
  | @cons v1 _ _ _ i1 r1 =>
  cases r1 with
  | @cons v2 _ _ _ i2 r2 =>
  cases r2
  refine wpAny_assign_Tuple (items := #[v1, v2]) hh ⟨_, S.sub _ _ ha, rfl, _, rfl⟩ rfl rfl fun h' hx' => ?_
  have S1 := S.stay (s' := { s with heap := h' }) (KL.of_keep (t := s.toks) fun b o e => hx' b o (Nat.ne_of_lt (Heap.lt_size e)) e)
  show wpAny _ A (do holding [v2] (assign (.Name x p1) env v1); do holding [] (assign (.Name y p2) env v2); pure ()) _ _ _
  refine wpAny_bind (wpAny_holding (wpAny_assign_Name (S1.store i1 hx hp ho.no fun s2 S2 => ?_)))
  exact wpAny_bind (wpAny_holding (wpAny_assign_Name (S2.store i2 hy hp ho2.no fun s3 S3 => wpAny_pure ⟨g, Le.refl g, S3⟩)))

/-- one turn's draw and binding -/
theorem St.draw {i : Nat} {bd : Sg → Sg} {R : Option Value → Shared → Prop} {E : Value → Shared → Prop} (S : St K s₀ g₀ (put ρ (P i)) (csf s₀) env σ ω s g) (W : Walk prog w target it P ds g₁) (l : Le g₁ g) (hh : A.handled = none) (hd : ds[i]? = some d) (hA : Asg prog w K csf env target d bd ω)
    (h : ∀ v s₁, wpAny (model prog w) A (letOwnedTupleGo target it v) (fun _ s₂ => wpAny (model prog w) A (assign target env v) (fun _ s₃ => ∃ g', Le g g' ∧ St K s₀ g₀ (put ρ (P (i + 1))) (csf s₀) env (bd σ) ω s₃ g') E s₂) E s₁ → R (some v) s₁) :
    wpAny (model prog w) A (pyNext it) R E s := by
  have hP : Pin (P i) s.heap := fun a p e => S.pin a p (put_of e)
  refine wpAny_mono (W.item A s E i d g l hh S.sub hP hd) (fun r s₁ h₁ => ?_) fun _ _ x => x
  obtain ⟨v, rfl, h₁⟩ := h₁
  refine h v s₁ (wpAny_mono h₁ (fun _ s₂ h₂ => ?_) fun _ _ x => x)
  obtain ⟨hs, up, hP', iv⟩ := h₂
  have S2 := S.repin (P' := P (i + 1)) hs (W.dom i) up hP'
  refine wpAny_mono (hA _ _ _ _ A s₂ _ E v hh S2 iv) (fun _ s₃ h₃ => ?_) fun _ _ x => x
  obtain ⟨g', l', S3⟩ := h₃
  exact ⟨g', (S.sub.le_grow _).trans l', S3⟩
theorem St.drawn {R : Option Value → Shared → Prop} {E : Value → Shared → Prop} (S : St K s₀ g₀ (put ρ (P ds.length)) cs env σ ω s g) (W : Walk prog w target it P ds g₁) (l : Le g₁ g) (hh : A.handled = none) (dis : ∀ a p, P 0 a = some p → ρ a = none)
    (h : ∀ s₁ g', Le g g' → St K s₀ g₀ ρ cs env σ ω s₁ g' → R none s₁) : wpAny (model prog w) A (pyNext it) R E s := by
  have hP : Pin (P ds.length) s.heap := fun a p e => S.pin a p (put_of e)
  refine wpAny_mono (W.done A s E g l hh S.sub hP) (fun r s₁ h₁ => ?_) fun _ _ x => x
  obtain ⟨rfl, hs, up⟩ := h₁
  refine h s₁ _ (S.sub.le_grow _) (S.quit hs (fun a p e => ?_) up)
  cases q : P 0 a with
  | none => rw [(W.dom0 ds.length a).1 q] at e; cases e
  | some p' => exact dis a p' q
/-- a new iterator -/
theorem St.begin {sm : Shared} {E : Value → Shared → Prop} {P : PH} (S : St K s₀ g₀ ρ cs env σ ω s g) (k : KL env.locals s sm) (k2 : Keeps sm s') (hP : Pin P s'.heap) (fr : ∀ a p, P a = some p → sm.heap.get? a = none) :
    St K s₀ g₀ (put ρ P) cs env σ ω s' (grow g s.heap sm.heap) ∧ ∀ a p, P a = some p → ρ a = none := by
  have S1 := S.next k
  obtain ⟨h', tk, rfl, hk⟩ := k2
  refine ⟨S1.pinNew (KL.of_keep hk) (Le.refl _) (S1.sub.trans' hk) (fun a o e => .inl e) (fun a p e => ⟨fr a p e, S1.sub.none (fr a p e)⟩) hP, fun a p e => ?_⟩
  cases q : ρ a with
  | none => rfl
  | some p' =>
    obtain ⟨o, eo, _⟩ := S1.pin a p' q
    rw [fr a p e] at eo; cases eo

theorem Exs.forW (σi : Nat → Sg) (ωi : Nat → Om) (bd : Nat → Sg → Sg) (hI : Itb prog w K n env σ target iter ds) (h0 : ∀ p ∈ σi 0, p ∈ σ) (hω : ωi 0 = ω)
    (hA : ∀ i d, ds[i]? = some d → Asg prog w K (fun _ => env.cells) env target d (bd i) (ωi i))
    (hB : ∀ g₁ i d, ds[i]? = some d → Exs prog w K n s₀ g₁ env (bd i (σi i)) (ωi i) body (NextQ K s₀ g₁ env (σi (i + 1)) (ωi (i + 1))))
    (h : Exs prog w K n s₀ g₀ env (σi ds.length) (ωi ds.length) rest Q) (hs : ∀ x, foldedSetIterable iter env x = pure x := by intro _; rfl) :
    Exs prog w K n s₀ g₀ env σ ω (.For target iter body [] pos :: rest) Q := fun ρ A s g E r S => by
  refine wpAny_execs_cons (wpAny_For (wpAny_mono (hI A s g E (S.pre r)) (fun x s₁ h₁ => wpAny_mono h₁ (fun it s₂ h₂ => ?_) fun _ _ x => x) fun _ _ x => x) hs)
  obtain ⟨sm, P, k, k2, W, hP, fr⟩ := h₂
  subst hω
  obtain ⟨S1, dis⟩ := (S.weaken h0).begin (E := E) k k2 hP fr
  refine codeAny_forLoop_any (fun k s' => ∃ i g', i ≤ ds.length ∧ k = ds.length + 1 - i ∧ Le (grow g s.heap sm.heap) g' ∧ St K s₀ g₀ (put ρ (P i)) env.cells env (σi i) (ωi i) s' g') ?_ (ds.length + 1) ⟨0, _, Nat.zero_le _, rfl, Le.refl _, S1⟩
  rintro k s' ⟨i, g', hi, rfl, l, S2⟩
  by_cases hlt : i < ds.length
  · have hd : ds[i]? = some ds[i] := List.getElem?_eq_getElem hlt
    refine S2.draw (csf := fun _ => env.cells) W l r.hh hd (hA i _ hd) fun v s₃ h₃ => ?_
    refine wpAny_mono h₃ (fun _ s₄ h₄ => wpAny_mono h₄ (fun _ s₅ h₅ => ?_) fun _ _ x => x) fun _ _ x => x
    obtain ⟨g5, l5, S5⟩ := h₅
    refine wpAny_mono (hB g5 i _ hd _ A s₅ g5 _ r S5.base) (fun fl s₆ h₆ => ?_) fun _ _ x => x
    obtain ⟨rfl, g6, S6⟩ := h₆
    exact ⟨ds.length + 1 - (i + 1), by omega, i + 1, g6, hlt, rfl, (l.trans l5).trans S6.le, S6.back S5.le S5.new⟩
  · have hin : i = ds.length := by omega
    subst hin
    refine S2.drawn W l r.hh dis fun s₃ g3 l3 S3 => wpAny_execs_nil ?_
    exact h ρ A s₃ g3 E r S3
end
end Mine
end

section
open PySem PySem.W PyProof.Rows PySem.Calls
set_option Elab.async false
set_option linter.unusedVariables false
namespace Mine

/-- the tests of a clause -/
def Tes (prog : Program) (w : World) (K : Frag) (n : Nat) (env : Env) (σ : Sg) (ifs : List Expr) (b : Bool) : Prop :=
  ∀ A s g E, Pre K n env σ A s g → wpAny (model prog w) A (forIn ifs true fun c r => if r = true then do let ok ← isTrue c env (eval c env); pure (ForInStep.yield ok) else pure (ForInStep.yield r)) (fun ok s' => KL env.locals s s' ∧ ok = b) E s

def isL (vs : List Value) : Obj → Prop := fun o => ∃ nn, o = { cls := .type "list", data := .seq vs.toArray nn }

/-- a turn of a comprehension's loop: the next value is drawn and stored, and `tail` goes on from there -/
def drawn (target iter : Expr) (it : Value) (env : Env) (tail : Sem Fin) : Sem Fin :=
  standAt iter.pos >>= fun _ => pyNext it >>= fun r => match r with
    | none => pure (.done .next)
    | some v => letOwnedTupleGo target it v >>= fun _ => assign target env v >>= fun _ => tail
/-- the innermost turn: `tail` asks the tests and puts the element to the list's end -/
def leafTurn (e : Expr) (depth : Nat) (target iter : Expr) (ifs : List Expr) (elt : Expr) (it acc : Value) (env : Env) : Sem Fin :=
  let next := again (.compLoop e depth it acc env)
  let put := eval elt env >>= fun x => call (.builtin "list.append") [acc, x] >>= fun _ => pure PUnit.unit
  drawn target iter it env (forIn ifs true (fun c r => if r = true then isTrue c env (eval c env) >>= fun b => pure (ForInStep.yield b) else pure (ForInStep.yield r)) >>= fun ok =>
    if ok = true then put >>= fun _ => next else next)

section
variable {prog : Program} {w : World} {K : Frag} {s₀ s s' : Shared} {g₀ g g' g₁ : FH} {ρ : PH} {P : Nat → PH} {cs : List (Str × Addr)} {csf : Shared → List (Str × Addr)} {env : Env} {σ σ' : Sg} {ω ω' : Om} {n : Nat} {A : Around} {x y : Str} {d : D} {ds es₀ : List D} {v it : Value} {e iter target elt : Expr} {es ifs : List Expr} {ss rest body : List Stmt} {Q : PH → Flow → Shared → Prop} {pos p p1 p2 pos' pos'' : Pos}

theorem Tes.nil : Tes prog w K n env σ [] true := fun A s g E P => wpAny_tests_nil ⟨KL.refl _ _, rfl⟩
theorem Tes.one {c : Expr} {b : Bool} (h : Te prog w K n env σ c b) : Tes prog w K n env σ [c] b := fun A s g E P => wpAny_tests_one (wpAny_mono (h A s g E P) (fun _ _ h => h) fun _ _ x => x)

theorem take_snoc {α β : Type} {p : α → Bool} {f : α → β} {ds : List α} {i : Nat} {d : α} (hd : ds[i]? = some d) (b : Bool) (hb : p d = b) : ((ds.take (i + 1)).filter p).map f = ((ds.take i).filter p).map f ++ (if b then [f d] else []) := by
  rw [List.take_add_one, hd, List.filter_append, List.map_append]
  subst hb
  cases hp : p d <;> simp [hp]

theorem comp_loop {gens : List Comprehension} {scope : Scope} {depth : Nat} {D : Addr} {vs₀ : List Value} {R : Result → Shared → Prop} (pd : Mine.D → Bool) (f : Mine.D → Mine.D) (bd : Mine.D → Sg → Sg)
    (hturn : ∀ it acc env, compTurn (.ListComp elt gens scope pos) depth it acc env = leafTurn (.ListComp elt gens scope pos) depth target iter ifs elt it acc env)
    (W : Walk prog w target it P ds g₁) (l : Le g₁ g) (r : Rm n A) (S : St K s₀ g₀ (put (put ρ (one D (isL vs₀))) (P 0)) (csf s₀) env σ none s g) (hi : Iss g vs₀ es₀) (hPD : P 0 D = none) (hρD : ρ D = none) (dis : ∀ a p, P 0 a = some p → put ρ (one D (isL vs₀)) a = none)
    (hsz : es₀.length + ds.length ≤ sizeLine)
    (hA : ∀ d, d ∈ ds → Asg prog w K csf env target d (bd d) none)
    (hT : ∀ d, d ∈ ds → Tes prog w K n env (bd d σ) ifs (pd d))
    (hE : ∀ d, d ∈ ds → pd d = true → Ev prog w K n env (bd d σ) elt (f d))
    (hb : ∀ d, d ∈ ds → ∀ p ∈ σ, p ∈ bd d σ)
    (hR : ∀ s' g' vs, Le g g' → St K s₀ g₀ (put ρ (one D (isL vs))) (csf s₀) env σ none s' g' → Iss g' vs (es₀ ++ (ds.filter pd).map f) → R (.ok .next) s') :
    codeAny (model prog w) A (.compLoop (.ListComp elt gens scope pos) depth it (.ref D) env) R s := by
  have putD : ∀ vs a, put ρ (one D (isL vs)) a = none ↔ put ρ (one D (isL vs₀)) a = none := fun vs a => by
    by_cases h : a = D
    · subst h; rw [put_of one_self, put_of one_self]; simp
    · rw [put_no (one_ne h), put_no (one_ne h)]
  refine codeAny_loop rfl (fun k s' => ∃ i g' vs, i ≤ ds.length ∧ k = ds.length + 1 - i ∧ Le g g' ∧ St K s₀ g₀ (put (put ρ (one D (isL vs))) (P i)) (csf s₀) env σ none s' g' ∧ Iss g' vs (es₀ ++ ((ds.take i).filter pd).map f)) ?_ (ds.length + 1) ⟨0, g, vs₀, Nat.zero_le _, rfl, Le.refl _, S, by simpa using hi⟩
  rintro k s' ⟨i, g', vs, hi', rfl, l', S2, is⟩
  show wpAny _ A ((compTurn (.ListComp elt gens scope pos) depth it (.ref D) env).onRaise (fun x => do noteFrame x env; theTreesLotGoes x)) _ _ s'
  refine wpAny_noted ?_
  rw [hturn]
  unfold leafTurn drawn
  refine wpAny_bind (wpAny_standAt (wpAny_bind ?_))
  by_cases hlt : i < ds.length
  · have hd : ds[i]? = some ds[i] := List.getElem?_eq_getElem hlt
    have hm : ds[i] ∈ ds := List.getElem_mem hlt
    generalize ds[i] = d at hd hm
    refine S2.draw (csf := csf) W (l.trans l') r.hh hd (hA d hm) fun v s₃ h₃ => ?_
    refine wpAny_bind (wpAny_mono h₃ (fun _ s₄ h₄ => wpAny_bind (wpAny_mono h₄ (fun _ s₅ h₅ => ?_) fun _ _ x => x)) fun _ _ x => x)
    obtain ⟨g5, l5, S5⟩ := h₅
    refine wpAny_bind (wpAny_mono (hT d hm A s₅ g5 _ (S5.pre r)) (fun ok s₆ h₆ => ?_) fun _ _ x => x)
    obtain ⟨k6, rfl⟩ := h₆
    have S6 := S5.next k6
    have l6 := S5.sub.le_grow s₆.heap
    cases hpd : pd d with
    | false =>
      exact wpAny_pure ⟨rfl, ds.length + 1 - (i + 1), by omega, i + 1, _, vs, hlt, rfl, l'.trans (l5.trans l6), S6.weaken (hb d hm), by
        rw [take_snoc hd false hpd]; simpa using is.mono (l5.trans l6)⟩
    | true =>
      refine wpAny_bind (wpAny_bind (wpAny_mono (hE d hm hpd A s₆ _ _ (S6.pre r)) (fun u s₇ h₇ => ?_) fun _ _ x => x))
      have S7 := S6.next h₇.1
      have l7 := S6.sub.le_grow s₇.heap
      have hPD' : P (i + 1) D = none := (W.dom0 (i + 1) D).1 hPD
      obtain ⟨o, eo, ⟨nn, rfl⟩, _⟩ := S7.pin D (isL vs) (by rw [put_no hPD', put_of one_self])
      have hlen : vs.length ≤ sizeLine := by
        rw [is.length, List.length_append, List.length_map]
        have h1 : ((ds.take i).filter pd).length ≤ (ds.take i).length := List.length_filter_le _ _
        have h2 : (ds.take i).length ≤ ds.length := by rw [List.length_take]; exact Nat.min_le_right _ _
        omega
      refine wpAny_bind (wpAny_list_append_plain ⟨nn, eo⟩ (hsz := by rw [List.size_toArray]; exact hlen) fun h' hp' hsb => ?_)
      obtain ⟨n', e'⟩ := hp'
      have S8 := S7.touch (s' := { s₇ with heap := h' }) (ρ' := put (put ρ (one D (isL (vs ++ [u])))) (P (i + 1))) (T := fun a => a = D) ⟨_, _, rfl⟩ (fun a t => ⟨isL vs, by rw [t, put_no hPD', put_of one_self]⟩) (fun b o t e => (hsb.2 b t).trans e) (fun a p e => by
        by_cases q : a = D
        · subst q
          rw [put_no hPD', put_of one_self] at e; cases e
          exact .inr ⟨⟨isL vs, by rw [put_no hPD', put_of one_self]⟩, _, e', ⟨n', by simp⟩, fun v h => by cases h⟩
        · refine .inl ⟨q, ?_⟩
          rw [← e]
          unfold put
          rw [one_ne q, one_ne q])
      refine wpAny_pure (wpAny_pure ⟨rfl, ds.length + 1 - (i + 1), by omega, i + 1, _, vs ++ [u], hlt, rfl, l'.trans (l5.trans (l6.trans (l7.trans (S7.sub.le_grow _)))), S8.weaken (hb d hm), ?_⟩)
      rw [take_snoc hd true hpd, ← List.append_assoc]
      refine Iss.append' (is.mono (l5.trans (l6.trans (l7.trans (S7.sub.le_grow _))))) ?_
      simp only [if_true]
      exact .cons (h₇.2.mono (S7.sub.le_grow _)) .nil
  · have hin : i = ds.length := by omega
    subst hin
    refine S2.drawn W (l.trans l') r.hh (fun a p e => (putD vs a).2 (dis a p e)) fun s₃ g3 l3 S3 => wpAny_pure ?_
    refine hR s₃ g3 vs (l'.trans l3) S3 ?_
    rw [List.take_length] at is
    exact is.mono l3

def cenvOf (scope : Scope) (cl : List (Str × Addr)) (C : Addr) (env : Env) : Env :=
  { scope := relabel scope env, locals := C, globals := env.globals, cells := cellsFrom (C + 1) scope.names cl, qual := env.qual, func := none, code := env.code, frame := env.frame, builtins := env.builtins }

theorem cellsFrom_app : ∀ (names : List (Str × NameKind)) (n : Nat) (acc : List (Str × Addr)), cellsFrom n names acc = cellsFrom n names [] ++ acc
  | [], _, _ => rfl
  | (name, kind) :: r, n, acc => by
    unfold cellsFrom
    split
    · rw [cellsFrom_app r (n + 1) ((name, n) :: acc), cellsFrom_app r (n + 1) [(name, n)], List.append_assoc]; rfl
    · exact cellsFrom_app r n acc

theorem wpAny_newEnvIn {M : Model} {scope : Scope} {cl : List (Str × Addr)} {E : Value → Shared → Prop} {R : Env → Shared → Prop}
    (h : R (newEnv scope s.heap.objs.size env.globals (cellsFrom (s.heap.objs.size + 1) scope.names cl) env.qual none .none (some env) builtinsNs) { s with heap := pushCells (s.heap.push { cls := .type "dict", data := .dict #[] }) scope.names }) :
    wpAny M A (newFunctionEnv scope env.globals cl [] env.qual none .none (some env)) R E s := by
  simp only [newFunctionEnv, Option.isSome_some, if_true]
  refine wpAny_bind (wpAny_alloc ?_)
  refine wpAny_bind (wpAny_layCells _ (fun name kind cells => by cases hkc : kind == NameKind.cell <;> simp [hkc]) _ _ _ _ ?_)
  rw [show ({ s with heap := s.heap.push { cls := .type "dict", data := .dict #[] } } : Shared).heap.objs.size = s.heap.objs.size + 1 from Heap.size_push ..]
  exact wpAny_bind (wpAny_pure (wpAny_pure h))

/-- what inner blocks see of the frame -/
def Caps (env : Env) (scope : Scope) (cl : List (Str × Addr)) (σ σ' : Sg) : Prop :=
  (∀ y c, (y, c) ∈ cl → ∃ dy, (y, dy) ∈ σ ∧ env.kindOf y = some .cell ∧ env.cells.lookup y = some c) ∧
  (∀ y dy, (y, dy) ∈ σ' → (y, dy) ∈ σ ∧ env.kindOf y = some .cell ∧ ∃ c, env.cells.lookup y = some c ∧ ∀ C, (cenvOf scope cl C env).cells.lookup y = some c ∧ (cenvOf scope cl C env).kindOf y = some .cell)
theorem Caps.none {scope : Scope} : Caps env scope [] σ [] := ⟨fun _ _ h => absurd h List.not_mem_nil, fun _ _ h => absurd h List.not_mem_nil⟩

/-- what a run of a comprehension leaves -/
structure Made (sm : Shared) (g₁ : FH) (C : Addr) (s' : Shared) (g' : FH) (v : Value) (d : Mine.D) : Prop where
  keep : Keeps sm s'
  le : Le g₁ g'
  sub : Sub g' s'.heap
  new : ∀ a o, g' a = some o → g₁ a = some o ∨ sm.heap.get? a = none
  nC : g' C = none
  fC : sm.heap.get? C = none
  ns : ∃ m, s'.heap.Ns C m
  is : Is g' v d

theorem comp_block {gens : List Comprehension} {scope : Scope} {cl : List (Str × Addr)} {sm s₂ : Shared} {E : Value → Shared → Prop} {RR : Value → Addr → Result → Shared → Prop} {res : List Mine.D}
    (P0 : Pre K n env σ A s g) (k : KL env.locals s sm) (k2 : Keeps sm s₂) (W : Walk prog w target it P ds (grow g s.heap sm.heap)) (hP : Pin (P 0) s₂.heap) (fr : ∀ a p, P 0 a = some p → sm.heap.get? a = none)
    (hcap : Caps env scope cl σ σ')
    (hgen : ∀ s₄ D C R, (∀ a, P 0 a = none → True) → (P 0 D = none) → St K sm (grow g s.heap sm.heap) (put (put noP (one D (isL []))) (P 0)) (cellsFrom (C + 1) scope.names []) (cenvOf scope cl C env) σ' none s₄ (grow g s.heap sm.heap) →
      (∀ s' g' vs, Le (grow g s.heap sm.heap) g' → St K sm (grow g s.heap sm.heap) (put noP (one D (isL vs))) (cellsFrom (C + 1) scope.names []) (cenvOf scope cl C env) σ' none s' g' → Iss g' vs res → R (.ok .next) s') →
      codeAny (model prog w) A (.compLoop (.ListComp elt gens scope pos) 0 it (.ref D) (cenvOf scope cl C env)) R s₄)
    (hgs : ∃ target iter ifs more, gens = ⟨target, iter, ifs, 0⟩ :: more)
    (hRR : ∀ D C s' g', Made sm (grow g s.heap sm.heap) C s' g' (.ref D) (.lst res) → RR (.ref D) C (.ok .next) s') :
    wpAny (model prog w) A (newList []) (fun acc s₃ => wpAny (model prog w) A (newFunctionEnv scope env.globals cl [] env.qual none .none (some env)) (fun cenv s₄ =>
      codeAny (model prog w) A (.compStart (.ListComp elt gens scope pos) 0 it acc { cenv with scope := relabel scope env }) (RR acc cenv.locals) s₄) E s₃) E s₂ := by
  refine wpAny_newObj_type (wpAny_newEnvIn ?_)
  have P1 := P0.next k
  obtain ⟨h₂, t₂, rfl, hk2⟩ := k2
  dsimp only
  generalize hH3 : h₂.push { cls := .type "list", dict := none, data := .seq ([] : List Value).toArray } = H3
  have hC : H3.objs.size = h₂.objs.size + 1 := by rw [← hH3, Heap.size_push]
  have hle : h₂.objs.size ≤ H3.objs.size := by omega
  have hlt : h₂.objs.size < H3.objs.size := by omega
  generalize hH4 : pushCells (H3.push { cls := .type "dict", data := .dict #[] }) scope.names = H4
  have ok := cellsFrom_ok scope.names (H3.push { cls := .type "dict", data := .dict #[] }) (H3.objs.size + 1) [] ⟨fun _ _ hm => (nomatch hm), List.Pairwise.nil⟩ (by rw [Heap.size_push]; exact Nat.le_refl _)
  rw [Heap.size_push, hH4] at ok
  have up3 : ∀ b o, h₂.get? b = some o → H3.get? b = some o := fun b o e => hH3 ▸ Heap.get?_push_of_some _ e
  have up4 : ∀ b o, H3.get? b = some o → H4.get? b = some o := fun b o e => hH4 ▸ pushCells_keeps _ _ b o (Heap.get?_push_of_some _ e)
  have eD : H4.get? h₂.objs.size = some { cls := .type "list", data := .seq ([] : List Value).toArray } := up4 _ _ (hH3 ▸ Heap.get?_push_size _ rfl)
  have nsC : H4.Ns H3.objs.size (fun _ => none) := hH4 ▸ (Heap.Ns.new H3 (.type "dict")).keeps (pushCells_keeps _ _)
  have frm : ∀ a, h₂.objs.size ≤ a → sm.heap.get? a = none := fun a h => keep_none hk2 (size_none h)
  have ltm : ∀ a o, sm.heap.get? a = some o → a < h₂.objs.size := fun a o e => Heap.lt_size (hk2 a o e)
  have hPD : P 0 h₂.objs.size = none := by
    cases q : P 0 h₂.objs.size with
    | none => rfl
    | some p =>
      obtain ⟨o, eo, _⟩ := hP _ p q
      have := size_none (h := h₂) (Nat.le_refl _)
      rw [this] at eo; cases eo
  have S4 : St K sm (grow g s.heap sm.heap) (put (put noP (one h₂.objs.size (isL []))) (P 0)) (cellsFrom (H3.objs.size + 1) scope.names []) (cenvOf scope cl H3.objs.size env) σ' none { sm with heap := H4, toks := t₂ } (grow g s.heap sm.heap) := by
    refine ⟨⟨_, _, rfl⟩, fun b o e => up4 b o (up3 b o (hk2 b o e)), P1.gd, P1.sub.trans' fun b o e => up4 b o (up3 b o (hk2 b o e)), Le.refl _, fun a o e => .inl e, P1.sub.none (frm _ (by show h₂.objs.size ≤ H3.objs.size; omega)), frm _ (by show h₂.objs.size ≤ H3.objs.size; omega), fun a p e => ?_, fun a p e => ?_, fun x c hc => ?_, fun x y c hc hy => ?_, _, nsC, fun y dy hy => ?_, fun _ _ e => by cases e⟩
    · cases q : P 0 a with
      | some p' =>
        rw [put_of q] at e; cases e
        obtain ⟨o, eo, po⟩ := hP a p q
        exact ⟨o, up4 _ _ (up3 _ _ eo), po⟩
      | none =>
        rw [put_no q] at e
        by_cases ha : a = h₂.objs.size
        · subst ha
          rw [put_of one_self] at e; cases e
          exact ⟨_, eD, ⟨_, rfl⟩, fun v h => by cases h⟩
        · rw [put_no (one_ne ha)] at e; cases e
    · have : sm.heap.get? a = none ∧ a < H3.objs.size := by
        cases q : P 0 a with
        | some p' =>
          obtain ⟨o, eo, _⟩ := hP a p' q
          have h1 := Heap.lt_size eo
          have h2 : a < h₂.objs.size := h1
          exact ⟨fr a p' q, Nat.lt_of_lt_of_le h2 hle⟩
        | none =>
          rw [put_no q] at e
          by_cases ha : a = h₂.objs.size
          · subst ha; exact ⟨frm _ (Nat.le_refl _), hlt⟩
          · rw [put_no (one_ne ha)] at e; cases e
      exact ⟨P1.sub.none this.1, by have := this.2; show a ≠ H3.objs.size; exact Nat.ne_of_lt this, this.1⟩
    · have hm := mem_of_lookup hc
      have hlo := (ok.empty x c hm).2
      refine ⟨?_, P1.sub.none (frm _ (by omega)), ?_, frm _ (by omega), _, (ok.empty x c hm).1⟩
      · show List.lookup x (cellsFrom (H3.objs.size + 1) scope.names cl) = some c
        rw [cellsFrom_app, List.lookup_append, hc]; rfl
      · have hc2 : P 0 c = none := by
          cases q : P 0 c with
          | none => rfl
          | some p =>
            obtain ⟨o, eo, _⟩ := hP _ p q
            have h1 := Heap.lt_size eo
            have h2 : c < h₂.objs.size := h1
            exact absurd (Nat.lt_of_lt_of_le h2 hle) (Nat.not_lt.mpr (Nat.le_of_succ_le hlo))
        rw [put_no hc2, put_no (one_ne (Nat.ne_of_gt (Nat.lt_of_lt_of_le hlt (Nat.le_of_succ_le hlo))))]; rfl
    · have hm := mem_of_lookup hc
      have hlo := (ok.empty x c hm).2
      have hy' : List.lookup y (cellsFrom (H3.objs.size + 1) scope.names cl) = some c := hy
      have hmy := mem_of_lookup hy'
      rw [cellsFrom_app] at hmy
      rcases List.mem_append.mp hmy with h1 | h1
      · exact name_of_addr ok.apart hm h1
      · exfalso
        obtain ⟨dy, h2, h3, h4⟩ := hcap.1 y c h1
        obtain ⟨m, hm2, f⟩ := P1.loc
        obtain ⟨v, hv, _⟩ := f y dy h2
        rcases hv with ⟨q1, _⟩ | ⟨_, c', q2, q3⟩
        · rw [h3] at q1; cases q1
        · rw [h4] at q2; cases q2
          obtain ⟨o, eo, _⟩ := q3
          have h2 := ltm _ _ eo
          exact absurd (Nat.lt_of_lt_of_le h2 hle) (Nat.not_lt.mpr (Nat.le_of_succ_le hlo))
    · obtain ⟨h2, h3, c, h4, h5⟩ := hcap.2 y dy hy
      obtain ⟨m, hm2, f⟩ := P1.loc
      obtain ⟨v, hv, iv⟩ := f y dy h2
      refine ⟨v, .inr ⟨(h5 _).2, c, (h5 _).1, ?_⟩, iv⟩
      rcases hv with ⟨q1, _⟩ | ⟨_, c', q2, q3⟩
      · rw [h3] at q1; cases q1
      · rw [h4] at q2; cases q2
        exact q3.keeps fun b o e => up4 b o (up3 b o (hk2 b o e))
  have fin : ∀ s' g' vs, Le (grow g s.heap sm.heap) g' → St K sm (grow g s.heap sm.heap) (put noP (one h₂.objs.size (isL vs))) (cellsFrom (H3.objs.size + 1) scope.names []) (cenvOf scope cl H3.objs.size env) σ' none s' g' → Iss g' vs res → RR (.ref h₂.objs.size) H3.objs.size (.ok .next) s' := fun s' g' vs l S is => by
    obtain ⟨h', t', rfl⟩ := S.st
    obtain ⟨o, eo, ⟨nn, rfl⟩, _⟩ := S.pin h₂.objs.size _ (put_of one_self)
    have gD : g' h₂.objs.size = none := (S.sep _ _ (put_of one_self)).1
    obtain ⟨m, hm, _⟩ := S.loc
    have lg : Le g' (fun b => if b = h₂.objs.size then some { cls := .type "list", data := .seq vs.toArray nn } else g' b) := fun b o q => by
      show (if b = _ then _ else _) = _
      rw [if_neg (by rintro rfl; rw [gD] at q; cases q)]; exact q
    refine hRR h₂.objs.size H3.objs.size { sm with heap := h', toks := t' } (fun b => if b = h₂.objs.size then some { cls := .type "list", data := .seq vs.toArray nn } else g' b) ⟨⟨_, _, rfl, S.keep⟩, l.trans lg, fun b o q => ?_, fun b o q => ?_, ?_, frm _ (by omega), ⟨m, hm⟩, .lst (n := nn) ?_ (is.mono lg)⟩
    · split at q
      · rename_i h; subst h; cases q; exact eo
      · exact S.sub b o q
    · split at q
      · rename_i h; subst h; exact .inr (frm _ (Nat.le_refl _))
      · exact S.new b o q
    · show (if H3.objs.size = _ then _ else _) = _
      rw [if_neg (by omega)]; exact S.nL
    · show (if h₂.objs.size = _ then _ else _) = _
      rw [if_pos rfl]
  obtain ⟨target, iter, ifs, more, rfl⟩ := hgs
  have run := hgen { sm with heap := H4, toks := t₂ } h₂.objs.size H3.objs.size (RR (.ref h₂.objs.size) H3.objs.size) (fun _ _ => trivial) hPD S4 fin
  refine codeAny_compStart_list run (W.self A _ _ 0 _ ?_ run)
  intro a p e
  obtain ⟨o, eo, po⟩ := hP a p e
  exact ⟨o, up4 _ _ (up3 _ _ eo), po⟩

/-- from what a comprehension made to what its tree leaves -/
theorem Made.post {sm s' : Shared} {C : Addr} {h' : Heap} (P0 : Pre K n env σ A s g) (k : KL env.locals s sm) (M : Made sm (grow g s.heap sm.heap) C s' g' v d) (hsb : Heap.SameBut C s'.heap h') :
    Post env.locals s g d v { s' with heap := h' } := by
  obtain ⟨h1, t1, rfl, kk⟩ := M.keep
  have hC : ∀ b o, sm.heap.get? b = some o → b ≠ C := fun b o e => by rintro rfl; rw [M.fC] at e; cases e
  have kk' : ∀ b o, sm.heap.get? b = some o → h'.get? b = some o := fun b o e => by
    exact (hsb.2 b (hC b o e)).trans (kk b o e)
  have old : ∀ a o, s.heap.get? a = some o → ∃ o', sm.heap.get? a = some o' := fun a o e => by
    by_cases q : a = env.locals
    · subst q
      obtain ⟨m, hm⟩ := P0.loc.ns
      obtain ⟨o', _, _, e', _⟩ := k.ns hm
      exact ⟨o', e'⟩
    · exact ⟨o, k.keep q e⟩
  refine ⟨k.trans (KL.of_keep kk'), M.is.mono fun a o e => ?_⟩
  rcases M.new a o e with q | q
  · cases q2 : s.heap.get? a with
    | some o' => rw [grow_old q2] at q ⊢; exact q
    | none => rw [grow_new q2] at q ⊢; exact kk' _ _ q
  · have : s.heap.get? a = none := by
      cases q2 : s.heap.get? a with
      | none => rfl
      | some o' => obtain ⟨o2, e2⟩ := old a o' q2; rw [q] at e2; cases e2
    rw [grow_new this]
    refine (hsb.2 a ?_).trans (M.sub a o e)
    rintro rfl; rw [M.nC] at e; cases e

/-- a comprehension of one clause -/
theorem comp_one {scope : Scope} {cl : List (Str × Addr)} {use : Option (Value → Sem Unit)} {sm s₂ : Shared} {E : Value → Shared → Prop} {R : Value → Shared → Prop} (pd : D → Bool) (f : D → D) (bd : D → Sg → Sg)
    (P0 : Pre K n env σ A s g) (k : KL env.locals s sm) (k2 : Keeps sm s₂) (W : Walk prog w target it P ds (grow g s.heap sm.heap)) (hP : Pin (P 0) s₂.heap) (fr : ∀ a p, P 0 a = some p → sm.heap.get? a = none)
    (hcap : Caps env scope cl σ σ') (hsz : ds.length ≤ sizeLine)
    (hA : ∀ C, ∀ d ∈ ds, Asg prog w K (fun _ => cellsFrom (C + 1) scope.names []) (cenvOf scope cl C env) target d (bd d) none)
    (hT : ∀ C, ∀ d ∈ ds, Tes prog w K n (cenvOf scope cl C env) (bd d σ') ifs (pd d))
    (hE : ∀ C, ∀ d ∈ ds, pd d = true → Ev prog w K n (cenvOf scope cl C env) (bd d σ') elt (f d))
    (hb : ∀ d ∈ ds, ∀ p ∈ σ', p ∈ bd d σ')
    (hR : ∀ D C s' g', Made sm (grow g s.heap sm.heap) C s' g' (.ref D) (.lst ((ds.filter pd).map f)) → compPost (model prog w) A E use R (.ref D) C (.ok .next) s') :
    wpAny (model prog w) A (newList []) (fun acc s₃ => wpAny (model prog w) A (newFunctionEnv scope env.globals cl [] env.qual none .none (some env)) (fun cenv s₄ =>
      codeAny (model prog w) A (.compStart (.ListComp elt [⟨target, iter, ifs, 0⟩] scope pos) 0 it acc { cenv with scope := relabel scope env }) (compPost (model prog w) A E use R acc cenv.locals) s₄) E s₃) E s₂ := by
  refine comp_block (RR := fun acc C => compPost (model prog w) A E use R acc C) (res := (ds.filter pd).map f) P0 k k2 W hP fr hcap (fun s₄ D C R' _ hPD S4 fin => ?_) ⟨_, _, _, _, rfl⟩ hR
  refine comp_loop (csf := fun _ => cellsFrom (C + 1) scope.names []) (depth := 0) (target := target) (iter := iter) (ifs := ifs) (es₀ := []) pd f bd (fun _ _ _ => rfl) W (Le.refl _) P0.rm S4 .nil hPD rfl (fun a p e => ?_) (by simpa using hsz) (hA C) (hT C) (hE C) hb (fun s' g' vs l S is => fin s' g' vs l S (by simpa using is))
  refine (put_no (one_ne ?_)).trans rfl
  rintro rfl; rw [hPD] at e; cases e

theorem Ev.comp {scope : Scope} {cl : List (Str × Addr)} (pd : D → Bool) (f : D → D) (bd : D → Sg → Sg) (hI : Itb prog w K n env σ target iter ds) (hclos : closureFor scope env = pure cl)
    (hcap : Caps env scope cl σ σ') (hsz : ds.length ≤ sizeLine)
    (hA : ∀ C, ∀ d ∈ ds, Asg prog w K (fun _ => cellsFrom (C + 1) scope.names []) (cenvOf scope cl C env) target d (bd d) Option.none)
    (hT : ∀ C, ∀ d ∈ ds, Tes prog w K n (cenvOf scope cl C env) (bd d σ') ifs (pd d))
    (hE : ∀ C, ∀ d ∈ ds, pd d = true → Ev prog w K n (cenvOf scope cl C env) (bd d σ') elt (f d))
    (hb : ∀ d ∈ ds, ∀ p ∈ σ', p ∈ bd d σ')
    (hkind : scope.kind = .function := by rfl) (hnames : ∀ x ∈ scope.names, x.2 = .local → scope.names.lookup x.1 = some .local := by decide)
    (hs : ∀ x, foldedSetIterable iter env x = pure x := by intro _; rfl) :
    Ev prog w K n env σ (.ListComp elt [⟨target, iter, ifs, 0⟩] scope pos) (.lst ((ds.filter pd).map f)) := fun A s g E P0 => by
  rw [eval_ListComp]
  refine wpAny_comprehension_free (use := Option.none) rfl hs hclos hkind hnames (wpAny_mono (hI A s g E P0) (fun x s₁ h₁ => wpAny_mono h₁ (fun it s₂ h₂ => ?_) fun _ _ x => x) fun _ _ x => x)
  obtain ⟨sm, P, k, k2, W, hP, fr⟩ := h₂
  refine comp_one pd f bd P0 k k2 W hP fr hcap hsz hA hT hE hb fun D C s' g' M => ?_
  obtain ⟨m, hm⟩ := M.ns
  exact ⟨m, hm, fun h' hsb => M.post P0 k hsb⟩

/-- x = [...] where the comprehension is told of the store -/
theorem Exs.assignComp {scope : Scope} {cl : List (Str × Addr)} (pd : D → Bool) (f : D → D) (bd : D → Sg → Sg) (hI : Itb prog w K n env σ target iter ds) (hclos : closureFor scope env = pure cl)
    (hcap : Caps env scope cl σ σ') (hsz : ds.length ≤ sizeLine)
    (hA : ∀ C, ∀ d ∈ ds, Asg prog w K (fun _ => cellsFrom (C + 1) scope.names []) (cenvOf scope cl C env) target d (bd d) Option.none)
    (hT : ∀ C, ∀ d ∈ ds, Tes prog w K n (cenvOf scope cl C env) (bd d σ') ifs (pd d))
    (hE : ∀ C, ∀ d ∈ ds, pd d = true → Ev prog w K n (cenvOf scope cl C env) (bd d σ') elt (f d))
    (hb : ∀ d ∈ ds, ∀ p ∈ σ', p ∈ bd d σ')
    (h : Exs prog w K n s₀ g₀ env ((x, .lst ((ds.filter pd).map f)) :: Sg.drop x σ) ω rest Q)
    (hsw : swapsWith (.ListComp elt [⟨target, iter, ifs, 0⟩] scope pos') (some (.Name x p)) pos.line env = pure true := by rfl)
    (hx : env.kindOf x = some .local := by rfl) (hp : (env.scope.kind == .class || (env.scope.kind == .module && env.locals != env.globals)) = false := by rfl) (ho : freeOf x ω := by first | exact True.intro | (show (_ : Str) ≠ _; decide))
    (hkind : scope.kind = .function := by rfl) (hnames : ∀ x ∈ scope.names, x.2 = .local → scope.names.lookup x.1 = some .local := by decide)
    (hs : ∀ x, foldedSetIterable iter env x = pure x := by intro _; rfl) :
    Exs prog w K n s₀ g₀ env σ ω (.Assign [.Name x p] (.ListComp elt [⟨target, iter, ifs, 0⟩] scope pos') pos :: rest) Q := fun ρ A s g E r S => by
  refine wpAny_execs_cons ?_
  rw [exec_Assign_Name_used _ _ _ _ hsw]
  refine wpAny_bind (wpAny_standAt (wpAny_bind ?_))
  show wpAny _ A (do let _ ← comprehension (.ListComp elt [⟨target, iter, ifs, 0⟩] scope pos') scope env _ (newList []) false (eval iter env) (some (PySem.assign (.Name x p) env))) _ _ s
  refine wpAny_bind (wpAny_mono (wpAny_comprehension_free (use := some (PySem.assign (.Name x p) env)) (Q := fun _ s' => wpAny (model prog w) A (execs rest env) (Q ρ) E s') rfl hs hclos hkind hnames
    (wpAny_mono (hI A s g E (S.pre r)) (fun xv s₁ h₁ => wpAny_mono h₁ (fun it s₂ h₂ => ?_) fun _ _ e => e) fun _ _ e => e)) (fun _ s' hq => wpAny_pure (wpAny_pure hq)) fun _ _ e => e)
  obtain ⟨sm, P, k, k2, W, hP, fr⟩ := h₂
  refine comp_one pd f bd (S.pre r) k k2 W hP fr hcap hsz hA hT hE hb fun D C s' g' M => ?_
  have S1 := S.next k
  obtain ⟨m, hm, _⟩ := S1.loc
  obtain ⟨mC, hmC⟩ := M.ns
  obtain ⟨h1, t1, rfl, kk⟩ := M.keep
  have hLC : env.locals ≠ C := by rintro rfl; obtain ⟨o, _, _, ho, _⟩ := hm; rw [M.fC] at ho; cases ho
  have hC : ∀ b o, sm.heap.get? b = some o → b ≠ C := fun b o e => by rintro rfl; rw [M.fC] at e; cases e
  show wpAny _ A (PySem.assign (.Name x p) env (.ref D)) _ _ _
  refine wpAny_assign_Name (wpAny_storeName_local hx (hm.keeps kk) (fun h₂ hn₂ hs₂ => ?_) hp)
  refine ⟨mC, hmC.sameBut hs₂ (Ne.symm hLC), fun h₃ hs₃ => ?_⟩
  show wpAny (model prog w) A (execs rest env) (Q ρ) E _
  refine h ρ A _ g' E r (S1.storedAt (v := .ref D) ⟨_, _, rfl⟩ (fun b o nb e => (hs₃.2 b (hC b o e)).trans ((hs₂.2 b nb).trans (kk b o e))) (fun m2 hm2 => ?_) M.le (fun a o e => ?_) M.new [(x, _)] (fun p hp => ?_) hx ho.no)
  · cases ns_unique hm hm2
    exact hn₂.sameBut hs₃ hLC
  · have aC : a ≠ C := by rintro rfl; rw [M.nC] at e; cases e
    have aL : a ≠ env.locals := by
      rintro rfl
      rcases M.new _ o e with q | q
      · rw [S1.nL] at q; cases q
      · obtain ⟨o, _, _, ho, _⟩ := hm; rw [q] at ho; cases ho
    exact (hs₃.2 a aC).trans ((hs₂.2 a aL).trans (M.sub a o e))
  · rw [List.mem_singleton] at hp; subst hp; exact ⟨rfl, M.is⟩
end
end Mine
end

section
open PySem PySem.W PyProof.Rows PySem.Calls PySem.SeqAt
set_option Elab.async false
set_option linter.unusedVariables false
namespace Mine

mutual
def D.py : D → PyData
  | .none => .none
  | .bool b => .bool b
  | .int i => .int i
  | .str x => .str x
  | .tup ds => .tuple (D.pys ds)
  | .lst ds => .list (D.pys ds)
  | _ => .none
def D.pys : List D → List PyData
  | [] => []
  | d :: ds => d.py :: D.pys ds
end
/-- numbers and none, and lists of such, to a depth -/
def D.ok : Nat → D → Bool
  | _, .none => true
  | _, .int _ => true
  | n + 1, .lst ds => ds.all (D.ok n)
  | _, _ => false
theorem D.pys_map : ∀ ds : List D, D.pys ds = ds.map D.py
  | [] => rfl
  | d :: ds => by rw [D.pys, D.pys_map ds]; rfl
theorem canLayAll_of {xs : List PyData} (h : ∀ x ∈ xs, x.canLay0 = true) : PyData.canLayAll0 xs = true := by
  induction xs with
  | nil => rfl
  | cons x xs ih => rw [PyData.canLayAll0, h x (.head _), ih fun y hy => h y (.tail _ hy)]; rfl
theorem depthAll_le {xs : List PyData} {n : Nat} (h : ∀ x ∈ xs, x.depth ≤ n) : PyData.depthAll xs ≤ n := by
  induction xs with
  | nil => exact Nat.zero_le _
  | cons x xs ih => rw [PyData.depthAll]; exact Nat.max_le.mpr ⟨h x (.head _), ih fun y hy => h y (.tail _ hy)⟩
theorem D.py_ok : ∀ (n : Nat) (d : D), D.ok n d = true → d.py.canLay0 = true ∧ d.py.depth ≤ n
  | n, .none, _ => ⟨rfl, Nat.zero_le _⟩
  | n, .int i, _ => ⟨rfl, Nat.zero_le _⟩
  | 0, .lst ds, h => by simp [D.ok] at h
  | n + 1, .lst ds, h => by
    have h' : ∀ d ∈ ds, D.ok n d = true := by simpa [D.ok] using h
    have ih : ∀ d ∈ ds, d.py.canLay0 = true ∧ d.py.depth ≤ n := fun d hd => D.py_ok n d (h' d hd)
    refine ⟨?_, ?_⟩
    · show PyData.canLayAll0 (D.pys ds) = true
      rw [D.pys_map]
      exact canLayAll_of fun x hx => by obtain ⟨d, hd, rfl⟩ := List.mem_map.mp hx; exact (ih d hd).1
    · show PyData.depthAll (D.pys ds) + 1 ≤ n + 1
      rw [D.pys_map]
      exact Nat.succ_le_succ (depthAll_le fun x hx => by obtain ⟨d, hd, rfl⟩ := List.mem_map.mp hx; exact (ih d hd).2)
  | n, .bool _, h => by cases n <;> simp [D.ok] at h
  | n, .flt _, h => by cases n <;> simp [D.ok] at h
  | n, .str _, h => by cases n <;> simp [D.ok] at h
  | n, .tup _, h => by cases n <;> simp [D.ok] at h
  | n, .rng _, h => by cases n <;> simp [D.ok] at h
  | n, .mat _ _, h => by cases n <;> simp [D.ok] at h
  | n, .adr _, h => by cases n <;> simp [D.ok] at h
  | n, .obj _, h => by cases n <;> simp [D.ok] at h
mutual
theorem Is.reads {g : FH} {h : Heap} (S : Sub g h) : ∀ (n : Nat) {v : Value} {d : D}, Is g v d → D.ok n d = true → ∃ as, Reads h v d.py as
  | _, _, _, .none, _ => ⟨_, .none⟩
  | _, _, _, .bool b, _ => ⟨_, .bool b⟩
  | _, _, _, .int i t, _ => ⟨_, .int i t⟩
  | _, _, _, .flt _ _, k => by rename_i n; cases n <;> simp [D.ok] at k
  | _, _, _, .str x t, _ => ⟨_, .str x t⟩
  | _, _, _, .tup _ _, k => by rename_i n _ _ _ _ _ _; cases n <;> simp [D.ok] at k
  | 0, _, _, .lst _ _, k => by simp [D.ok] at k
  | n + 1, _, _, .lst (ds := ds) e r, k => by
    obtain ⟨as, h⟩ := Iss.reads S n r (by simpa [D.ok] using k)
    exact ⟨_, .list (S _ _ e) rfl rfl h⟩
  | _, _, _, .rng _ _ _ _, k => by rename_i n _ _; cases n <;> simp [D.ok] at k
  | n, _, _, .mat _ _, k => by cases n <;> simp [D.ok] at k
  | n, _, _, .adr _, k => by cases n <;> simp [D.ok] at k
  | _, _, _, .obj _, k => by rename_i n _ _ _; cases n <;> simp [D.ok] at k
theorem Iss.reads {g : FH} {h : Heap} (S : Sub g h) : ∀ (n : Nat) {vs : List Value} {ds : List D}, Iss g vs ds → (∀ d ∈ ds, D.ok n d = true) → ∃ as, ReadsAll h vs (D.pys ds) as
  | _, _, _, .nil, _ => ⟨_, .nil⟩
  | n, _, _, .cons i r, k => by
    obtain ⟨as, h1⟩ := Is.reads S n i (k _ (.head _))
    obtain ⟨bs, h2⟩ := Iss.reads S n r fun d hd => k d (.tail _ hd)
    exact ⟨_, .cons h1 h2⟩
end

section
variable {prog : Program} {w : World} {K : Frag} {n : Nat} {env : Env} {σ : Sg} {d d₁ d₂ : D} {ds : List D} {e value slice : Expr} {pos p : Pos}

theorem Op2.eqD (h : D.ok 60 d = true) : Op2 prog w K n env σ (compareOp .Eq) d d (.bool true) := fun A s g E v u P hv hu => by
  obtain ⟨as, ra⟩ := hv.reads P.sub 60 h
  obtain ⟨bs, rb⟩ := hu.reads P.sub 60 h
  have k := D.py_ok 60 d h
  have sh : shaped d.py = true := by unfold shaped; rw [k.1]; simp; omega
  refine compareEq_shaped ra rb sh sh (by have := P.rm.un; omega) ?_
  rw [eqv_refl _ k.1]
  exact Post.here P (.bool _) s.toks
theorem Op2.neD (h : D.ok 60 d = true) : Op2 prog w K n env σ (compareOp .NotEq) d d (.bool false) := fun A s g E v u P hv hu => by
  obtain ⟨as, ra⟩ := hv.reads P.sub 60 h
  obtain ⟨bs, rb⟩ := hu.reads P.sub 60 h
  have k := D.py_ok 60 d h
  have sh : shaped d.py = true := by unfold shaped; rw [k.1]; simp; omega
  refine compareNe_shaped ra rb sh sh (by have := P.rm.un; omega) ?_
  rw [eqv_refl _ k.1]
  exact Post.here P (.bool _) s.toks
theorem Op2.eqNil (h : D.ok 60 (.lst ds) = true) : Op2 prog w K n env σ (compareOp .Eq) (.lst ds) (.lst []) (.bool ds.isEmpty) := fun A s g E v u P hv hu => by
  obtain ⟨as, ra⟩ := hv.reads P.sub 60 h
  obtain ⟨bs, rb⟩ := hu.reads P.sub 60 rfl
  have k := D.py_ok 60 _ h
  have sh : shaped (D.lst ds).py = true := by unfold shaped; rw [k.1]; simp; omega
  refine compareEq_shaped ra rb sh rfl (by have := P.rm.un; omega) ?_
  have : PyData.eqv (D.lst ds).py (D.lst []).py = ds.isEmpty := by
    cases ds <;> simp [D.py, D.pys, PyData.eqv, PyData.eqvAll]
  rw [this]
  exact Post.here P (.bool _) s.toks

/-- an item: what the getter gives at the two values, with nothing written -/
theorem Ev.sub {T id : String} {dv di : D} (hv : Ev prog w K n env σ value dv) (hi : Ev prog w K n env σ slice di) (hl : typeLookup (.type T) "__getitem__" = pure (some (.builtin id)))
    (hget : ∀ {A : Around} {E : Value → Shared → Prop} {s : Shared} {g : FH} {v i : Value}, Pre K n env σ A s g → Is g v dv → Is g i di → s.TypeIs v T ∧ wpAny (model prog w) A (getItem v i) (fun r s' => s' = s ∧ Is g r d) E s)
    (hs : ∀ o i, subscripted slice false o i = operate [o, i] (getItem o i) := by intro _ _; rfl) : Ev prog w K n env σ (.Subscript value slice pos) d := fun A s g E P => by
  rw [eval_Subscript]
  refine wpAny_bind (wpAny_mono (hv A s g E P) (fun v s₁ h₁ => ?_) fun _ _ x => x)
  have P1 := P.next h₁.1
  refine wpAny_bind (wpAny_holding (wpAny_mono (hi A s₁ _ E P1) (fun i s₂ h₂ => ?_) fun _ _ x => x))
  obtain ⟨hT, hG⟩ := hget (E := E) (P1.next h₂.1) (P1.up h₁.2 s₂.heap) h₂.2
  refine wpAny_bind (wpAny_standAt (wpAny_bind ?_))
  rw [getitemInPython_of_ne hT.not_modules]
  refine wpAny_bind (wpAny_specialOf hT hl (wpAny_pure ?_))
  rw [hs]
  refine wpAny_bind (wpAny_operating (wpAny_mono hG ?_ fun _ _ x => x))
  rintro r _ ⟨rfl, ir⟩
  exact wpAny_bind (wpAny_letTemporaryGo (wpAny_pure ⟨h₁.1.trans h₂.1, ir.mono (P.tr h₁.1 h₂.1)⟩))
theorem Ev.item {k : Int} (hv : Ev prog w K n env σ value (.lst ds)) (hi : Ev prog w K n env σ slice (.int k)) (h0 : 0 ≤ k) (hfit : k < 2 ^ 63) (hd : ds[k.toNat]? = some d)
    (hs : ∀ o i, subscripted slice false o i = operate [o, i] (getItem o i) := by intro _ _; rfl) : Ev prog w K n env σ (.Subscript value slice pos) d :=
  Ev.sub hv hi list_getitem_lookup (fun P iv ii => by
    cases ii
    cases iv with
    | lst ha ra =>
    obtain ⟨x, hx, ix⟩ := ra.get _ _ hd
    have hl : Heap.IsList _ _ _ := ⟨_, P.sub _ _ ha, rfl, _, rfl⟩
    exact ⟨hl.typeIs, wpAny_getItem_list hl h0 hfit (x := x) (by simpa using hx) ⟨rfl, ix⟩⟩) hs
theorem Ev.itemT {k : Int} (hv : Ev prog w K n env σ value (.tup ds)) (hi : Ev prog w K n env σ slice (.int k)) (h0 : 0 ≤ k) (hfit : k < 2 ^ 63) (hd : ds[k.toNat]? = some d)
    (hs : ∀ o i, subscripted slice false o i = operate [o, i] (getItem o i) := by intro _ _; rfl) : Ev prog w K n env σ (.Subscript value slice pos) d :=
  Ev.sub (T := "tuple") hv hi F.slot_tuple_getitem.lookup (fun P iv ii => by
    cases ii
    cases iv with
    | tup ha ra =>
    obtain ⟨x, hx, ix⟩ := ra.get _ _ hd
    have hlt : k.toNat < ds.length := (List.getElem?_eq_some_iff.mp hd).1
    refine ⟨⟨_, P.sub _ _ ha, rfl⟩, PySem.P.getItem_tuple (k := k.toNat) (P.sub _ _ ha) (by omega) hfit ?_ (y := x) (by simpa using hx) ⟨rfl, ix⟩⟩
    unfold seqIndex?
    rw [List.size_toArray, ra.length]
    simp
    omega) hs

def cut (k : Int) (n : Nat) : Nat := (max 0 (min (if k < 0 then k + n else k) n)).toNat
theorem slicePick_cut (xs : List Value) (k : Int) : slicePick xs.toArray none (some k) none = (xs.take (cut k xs.length)).toArray := by
  unfold slicePick sliceBounds
  simp only [Option.getD_none, List.size_toArray]
  have e : (max 0 (min (if k < 0 then k + (xs.length : Int) else k) (xs.length : Int))) = ((cut k xs.length : Nat) : Int) := by unfold cut; omega
  simp only [show (1 : Int) > 0 by decide, if_true]
  rw [e]
  have := sliceRange_one 0 (cut k xs.length)
  simp only [Int.ofNat_zero] at this
  have h2 : sliceRange (0 : Int) ((cut k xs.length : Nat) : Int) 1 = (List.range (cut k xs.length - 0)).map (0 + ·) := this
  rw [h2]
  congr 1
  rw [Nat.sub_zero]
  generalize cut k xs.length = j
  induction j with
  | zero => rfl
  | succ j ih =>
    rw [List.range_succ, List.map_append, List.filterMap_append, ih, List.take_add_one]
    congr 1
    simp
    cases h : xs[j]? <;> simp [List.filterMap, h]
theorem Iss.take {g : FH} : ∀ {vs : List Value} {ds : List D}, Iss g vs ds → ∀ i, Iss g (vs.take i) (ds.take i)
  | _, _, _, 0 => .nil
  | _, _, .nil, i + 1 => .nil
  | _, _, .cons a r, i + 1 => .cons a (Iss.take r i)
theorem Ev.sliceTo {k : Int} {up : Expr} (hv : Ev prog w K n env σ value (.lst ds)) (hi : Ev prog w K n env σ up (.int k)) (hl : ds.length ≤ sizeLine) (ht : ∀ o r, letTemporaryGo value o r = pure () := by intro _ _; rfl) : Ev prog w K n env σ (.Subscript value (.Slice Option.none (some up) Option.none p) pos) (.lst (ds.take (cut k ds.length))) := fun A s g E P => by
  refine wpAny_Subscript_list_slice (wpAny_mono (hv A s g E P) (fun o s₁ h₁ => wpAny_evalPart_none (wpAny_evalPart_some (wpAny_mono (hi A s₁ _ E (P.next h₁.1)) (fun i s₂ h₂ => ?_) fun _ _ x => x))) fun _ _ x => x) ht
  have P2 := (P.next h₁.1).next h₂.1
  have ho := (P.next h₁.1).up h₁.2 s₂.heap
  have k2 := h₁.1.trans h₂.1
  cases h₂.2 with
  | int _ tk =>
  cases ho with
  | @lst a na vs _ ha ra =>
  refine ⟨a, vs.toArray, Option.none, some k, rfl, ⟨_, P2.sub _ _ ha, rfl, _, rfl⟩, by rw [List.size_toArray, ra.length]; exact hl, .none, .int _ _, ?_⟩
  rw [slicePick_cut, ra.length]
  have k3 : KL env.locals s₂ { s₂ with heap := (s₂.heap.push { cls := .type "slice", data := .fields #[.none, .int k tk, .none] }).push { cls := .type "list", data := .seq (vs.take (cut k ds.length)).toArray } } := KL.of_keep (t := s₂.toks) fun b o e => Heap.get?_push_of_some _ (Heap.get?_push_of_some _ e)
  refine Post.trans P h₁.1 (Post.trans (P.next h₁.1) h₂.1 ⟨k3, .lst (n := 0) ?_ ((P2.ups ra _).take _)⟩)
  rw [grow_new (size_none (Nat.le_succ _))]
  have := Heap.get?_push_size (s₂.heap.push { cls := .type "slice", data := .fields #[.none, .int k tk, .none] }) (o := { cls := .type "list", data := .seq (vs.take (cut k ds.length)).toArray }) rfl
  rw [Heap.size_push] at this
  exact this

theorem OpV.range {m : Int} : OpV prog w K n env σ (fun vs => PySem.call (.type "range") vs) [.int m] (.rng m) := fun A s g E vs P I => by
  cases I with
  | cons i r =>
  cases r
  cases i with
  | int _ t0 =>
  refine call_range_1 ⟨KL.push (t := s.toks + 1 + 1), .rng s.toks t0 (s.toks + 1) ?_⟩
  rw [grow_new (size_none (Nat.le_refl _))]
  exact Heap.get?_push_size _ rfl
theorem OpV.abs {a : Int} : OpV prog w K n env σ (fun vs => PySem.call (.builtin "abs") vs) [.int a] (.int (if a < 0 then -a else a)) := fun A s g E vs P I => by
  cases I with
  | cons i r =>
  cases r
  cases i
  exact call_abs_int fun u tk => Post.here P (.int _ _) _
theorem OpV.min2 {a b : Int} : OpV prog w K n env σ (fun vs => PySem.call (.builtin "min") vs) [.int a, .int b] (.int (if b < a then b else a)) := fun A s g E vs P I => by
  obtain ⟨m, hm⟩ := P.loc.ns
  cases I with
  | cons i r =>
  cases r with
  | cons j r =>
  cases r
  cases i
  cases j
  exact min_two_N P.rm.hh (allFr hm) (allNews_news _ _) fun h' tk F N => ⟨KL.of_fr (more := []) hm F N, .int _ _⟩
theorem OpV.max2 {a b : Int} : OpV prog w K n env σ (fun vs => PySem.call (.builtin "max") vs) [.int a, .int b] (.int (if b > a then b else a)) := fun A s g E vs P I => by
  obtain ⟨m, hm⟩ := P.loc.ns
  cases I with
  | cons i r =>
  cases r with
  | cons j r =>
  cases r
  cases i
  cases j
  exact max_two_N P.rm.hh (allFr hm) (allNews_news _ _) fun h' tk F N => ⟨KL.of_fr (more := []) hm F N, .int _ _⟩
theorem OpV.intF {x : UInt64} {sg : Bool} {m : Nat} {e : Int} (h : Float64.decode x = .fin sg m e) : OpV prog w K n env σ (fun vs => PySem.call (.type "int") vs) [.flt x] (.int (Float64.truncOf sg m e)) := fun A s g E vs P I => by
  cases I with
  | cons i r =>
  cases r
  cases i
  exact call_int_float h (Post.here P (.int _ _) _)
theorem OpV.lenL (h : (ds.length : Int) < 2 ^ 63) : OpV prog w K n env σ (fun vs => PySem.call (.builtin "len") vs) [.lst ds] (.int ds.length) := fun A s g E vs P I => by
  cases I with
  | cons i r =>
  cases r
  cases i with
  | @lst a na vs _ ha ra =>
  refine call_len_list ⟨_, P.sub _ _ ha, rfl, _, rfl⟩ (by rw [List.size_toArray, ra.length]; exact h) ?_
  rw [List.size_toArray, ra.length]
  exact Post.here P (.int _ _) _
theorem OpV.lenS {x : Str} (h : ¬ (x.length : Int) ≥ 2 ^ 63) : OpV prog w K n env σ (fun vs => PySem.call (.builtin "len") vs) [.str x] (.int x.length) := fun A s g E vs P I => by
  cases I with
  | cons i r =>
  cases r
  cases i
  exact len_str h (Post.here P (.int _ _) _)
theorem OpV.minL {ns : List Int} {M : Int} (hm : M ∈ ns) (hle : ∀ a ∈ ns, M ≤ a) : OpV prog w K n env σ (fun vs => PySem.call (.builtin "min") vs) [.lst (ns.map D.int)] (.int M) := fun A s g E vs P I => by
  obtain ⟨m, hm'⟩ := P.loc.ns
  cases I with
  | cons i r =>
  cases r
  cases i with
  | @lst a na vs _ ha ra =>
  refine min_list_N P.rm.hh (allFr hm') (allNews_news _ _) ⟨_, P.sub _ _ ha, rfl, _, rfl⟩ ra.ints (List.length_pos_of_mem hm) fun h' M' t tk F N hM' hle' => ?_
  have : M' = M := Int.le_antisymm (hle' _ hm) (hle _ hM')
  subst this
  exact ⟨KL.of_fr (more := []) hm' F N, .int _ _⟩
theorem OpV.maxL {ns : List Int} {M : Int} (hm : M ∈ ns) (hle : ∀ a ∈ ns, a ≤ M) : OpV prog w K n env σ (fun vs => PySem.call (.builtin "max") vs) [.lst (ns.map D.int)] (.int M) := fun A s g E vs P I => by
  obtain ⟨m, hm'⟩ := P.loc.ns
  cases I with
  | cons i r =>
  cases r
  cases i with
  | @lst a na vs _ ha ra =>
  refine max_list_N P.rm.hh (allFr hm') (allNews_news _ _) ⟨_, P.sub _ _ ha, rfl, _, rfl⟩ ra.ints (List.length_pos_of_mem hm) fun h' M' t tk F N hM' hle' => ?_
  have : M' = M := Int.le_antisymm (hle _ hM') (hle' _ hm)
  subst this
  exact ⟨KL.of_fr (more := []) hm' F N, .int _ _⟩
theorem OpV.sorted {ns ns' : List Int} (h64 : ns.length < 64) (hp : ns'.Perm ns) (hs : ns'.Pairwise (· ≤ ·)) : OpV prog w K n env σ (fun vs => PySem.call (.builtin "sorted") vs) [.lst (ns.map D.int)] (.lst (ns'.map D.int)) := fun A s g E vs P I => by
  obtain ⟨m, hm⟩ := P.loc.ns
  cases I with
  | cons i r =>
  cases r
  cases i with
  | @lst a na vs _ ha ra =>
  refine sorted_N (allFr hm) (allNews_news _ _) ⟨_, P.sub _ _ ha, rfl, _, rfl⟩ ra.ints (by rw [ra.length, List.length_map]; exact h64) fun h' vs' ns2 e F N hi hp2 hs2 => ?_
  have : ns2 = ns' := List.Perm.eq_of_pairwise (le := fun a b => decide (a ≤ b)) (fun a b _ _ h1 h2 => Int.le_antisymm (by simpa using h1) (by simpa using h2)) (by simpa using hs2) (by simpa using hs) (hp2.trans hp.symm)
  subst this
  refine ⟨KL.of_fr (more := [_]) (t := s.toks) hm F N, .lst (n := e) (vs := vs') ?_ (Iss.ofInts hi)⟩
  rw [grow_new (size_none (Nat.le_succ _))]
  exact (N _ (.head _)).1
end
end Mine
end

section
open PySem PySem.W PyProof.Rows PySem.Calls PySem.SeqAt
set_option Elab.async false
set_option linter.unusedVariables false
namespace Mine
section
variable {prog : Program} {w : World} {K : Frag} {n : Nat} {env : Env} {σ : Sg} {d d₀ : D} {ds : List D} {o e : Expr} {rest : List Expr} {pos p apos : Pos} {T id : String} {name : Str}

/-- a value of a type whose objects hold no names of their own -/
def Of (d : D) (T : String) : Prop := ∀ g v (s : Shared), Is g v d → Sub g s.heap → s.TypeIs v T ∧ ∀ a, v = .ref a → ∃ ob, s.heap.get? a = some ob ∧ ob.dict = none
theorem Of.lst : Of (.lst ds) "list" := fun g v s i S => by
  cases i with
  | lst h r => exact ⟨⟨_, S _ _ h, rfl⟩, fun a e => by cases e; exact ⟨_, S _ _ h, rfl⟩⟩
theorem Of.str {x : Str} : Of (.str x) "str" := fun g v s i S => by
  cases i; exact ⟨typeIs_str _ _ _, fun a e => by cases e⟩
theorem Of.obj {ob : Obj} (hc : ob.cls = .type T) (hd : ob.dict = none) : Of (.obj ob) T := fun g v s i S => by
  cases i with
  | obj h => exact ⟨⟨_, S _ _ h, hc⟩, fun a e => by cases e; exact ⟨_, S _ _ h, hd⟩⟩

theorem Of.mat {x : Str} {sp : List Int} : Of (.mat x sp) "re.Match" := fun g v s i S => by
  cases i with
  | mat h _ => exact ⟨⟨_, S _ _ h, rfl⟩, fun a e => by cases e; exact ⟨_, S _ _ h, rfl⟩⟩
theorem Ev.meth (ho : Ev prog w K n env σ o d₀) (hT : ∀ g v (s : Shared), Gd K g → Is g v d₀ → Sub g s.heap → s.TypeIs v T ∧ ∀ a, v = .ref a → ∃ ob, s.heap.get? a = some ob ∧ ob.dict = Option.none) (pa : PlainAttrs T) (sl : Slot T name id) (ty : typeOf (.builtin id) = pure (.type "method_descriptor")) (ha : Evs prog w K n env σ (e :: rest) ds) (hf : OpV prog w K n env σ (fun vs => PySem.call (.builtin id) vs) (d₀ :: ds) d)
    (hbase : attributeBase o name env (eval o env) = eval o env := by rfl)
    (hfew : ((backTo pos (starEach (e :: rest) env)).all (fun x => !x.1) && (backToKw pos (keywordEach [] env)).all (fun x => x.1.isSome)
      && decide ((e :: rest).length + ([] : List Keyword).length + (if ([] : List Keyword).isEmpty then 0 else 1) < 30)) = true := by rfl)
    (hline : (apos.endLine == pos.line) = true := by rfl)
    (he : starEach (e :: rest) env = (false, eval e env) :: starEach rest env := by rfl)
    (hplain : (backTo pos (starEach rest env)).any (·.1) = false := by rfl) :
    Ev prog w K n env σ (.Call (.Attribute o name apos) (e :: rest) [] pos) d := fun A s g E P => by
  refine wpAny_Call_method hbase hfew hline pa sl ty (wpAny_mono (ho A s g E P) (fun v s₁ h₁ => ?_) fun _ _ x => x)
  have P1 := P.next h₁.1
  obtain ⟨t1, t2⟩ := hT _ _ s₁ P1.gd h₁.2 P1.sub
  refine ⟨t1, t2, PyProof.Rows.callWith_method1 (he := he) (hplain := hplain) (wpAny_mono (ha A s₁ _ E pos P1) (fun vs s₂ h₂ => ?_) fun _ _ x => x)⟩
  have P2 := P1.next h₂.1
  exact wpAny_mono (hf A s₂ _ E (v :: vs) P2 (.cons (P1.up h₁.2 _) h₂.2)) (fun r s₃ h₃ => Post.trans P h₁.1 (Post.trans P1 h₂.1 h₃)) fun _ _ x => x

theorem OpV.index {ns : List Int} {k : Int} (hl : PyData.layable0 (.list (ns.map PyData.int)) = true) (hk : k ∈ ns) : OpV prog w K n env σ (fun vs => PySem.call (.builtin "list.index") vs) [.lst (ns.map D.int), .int k] (.int (ns.idxOf k)) := fun A s g E vs P I => by
  cases I with
  | cons i r =>
  cases r with
  | cons j r =>
  cases r
  cases j
  cases i with
  | @lst a na vs _ ha ra =>
  exact index_list_ints ⟨_, P.sub _ _ ha, rfl, _, rfl⟩ ra.ints hl hk (Post.here P (.int _ _) _)
theorem Ev.index {x : Expr} {ns : List Int} {k : Int} (ho : Ev prog w K n env σ o (.lst (ns.map D.int))) (hx : Ev prog w K n env σ x (.int k)) (hl : PyData.layable0 (.list (ns.map PyData.int)) = true) (hk : k ∈ ns)
    (hbase : attributeBase o "index" env (eval o env) = eval o env := by rfl)
    (hfew : ((backTo pos (starEach [x] env)).all (fun x => !x.1) && (backToKw pos (keywordEach [] env)).all (fun x => x.1.isSome)
      && decide (([x] : List Expr).length + ([] : List Keyword).length + (if ([] : List Keyword).isEmpty then 0 else 1) < 30)) = true := by rfl)
    (hline : (apos.endLine == pos.line) = true := by rfl)
    (he : starEach [x] env = (false, eval x env) :: starEach [] env := by rfl) :
    Ev prog w K n env σ (.Call (.Attribute o "index" apos) [x] [] pos) (.int (ns.idxOf k)) :=
  Ev.meth ho (fun g v s _ => Of.lst g v s) F.plainAttrs_list F.slot_list_index F.type_list_index (Evs.cons hx Evs.nil he) (OpV.index hl hk) hbase hfew hline he rfl

theorem isStrs {g : FH} : ∀ {l : List (Str × Tok)}, Iss g (strValues l) ((l.map (·.1)).map D.str)
  | [] => .nil
  | _ :: _ => .cons (.str _ _) isStrs
theorem OpV.split {x y : Str} (hy : (y.length == 0) = false) (hx : x.length + 2 ≤ sizeLine) : OpV prog w K n env σ (fun vs => PySem.call (.builtin "str.split") vs) [.str x, .str y] (.lst ((Txt.split x y).map D.str)) := fun A s g E vs P I => by
  obtain ⟨m, hm⟩ := P.loc.ns
  cases I with
  | cons i r =>
  cases r with
  | cons j r =>
  cases r
  cases i
  cases j
  refine KSpl.split1 (allFr hm) (allNews_news _ _) hy (fun D l h' k e _ F N hlt => ?_) hx
  refine ⟨KL.of_fr (more := [_]) hm F N, .lst (n := 0) (vs := strValues l) ?_ ?_⟩
  · rw [grow_new]
    · exact (N _ (.head _)).1
    · cases q : s.heap.get? D with
      | none => rfl
      | some o =>
        by_cases hD : D = env.locals
        · subst hD
          exact absurd rfl (N _ (.head _)).2.1
        · exact absurd (hlt (D, o) (allNews_mem hD q)) (Nat.lt_irrefl _)
  · rw [← e]; exact isStrs
end
end Mine
namespace Mine
def D.toI : D → Int
  | .int i => i
  | _ => 0
theorem filt_enc {α : Type} {as : List α} {enc : α → D} {pd : D → Bool} {f : D → D} {p : α → Bool} {f2 : α → D} (hp : ∀ a ∈ as, pd (enc a) = p a) (hf : ∀ a ∈ as, f (enc a) = f2 a) : ((as.map enc).filter pd).map f = (as.filter p).map f2 := by
  induction as with
  | nil => rfl
  | cons a as ih =>
    have ih := ih (fun b hb => hp b (.tail _ hb)) (fun b hb => hf b (.tail _ hb))
    have h1 := hp a (.head _)
    have h2 := hf a (.head _)
    rw [List.map_cons, List.filter_cons, List.filter_cons, h1]
    split
    · rw [List.map_cons, List.map_cons, h2, ih]
    · exact ih
theorem upto_mem {n : Nat} {d : D} (h : d ∈ upto n) : ∃ i : Nat, i < n ∧ d = .int i := by
  unfold upto at h
  obtain ⟨i, hi, rfl⟩ := List.mem_map.mp h
  exact ⟨i, List.mem_range.mp hi, rfl⟩
theorem Caps.one {env : Env} {scope : Scope} {σ : Sg} {y : Str} {c : Addr} {dy : D} (h : (y, dy) ∈ σ) (hk : env.kindOf y = some .cell) (hc : env.cells.lookup y = some c) (hC : ∀ C, (cenvOf scope [(y, c)] C env).cells.lookup y = some c ∧ (cenvOf scope [(y, c)] C env).kindOf y = some .cell) : Caps env scope [(y, c)] σ [(y, dy)] :=
  ⟨fun y' c' h' => by rw [List.mem_singleton] at h'; cases h'; exact ⟨dy, h, hk, hc⟩, fun y' d' h' => by rw [List.mem_singleton] at h'; cases h'; exact ⟨h, hk, c, hc, hC⟩⟩
theorem layable_ints {ns : List Int} (hl : ns.length ≤ 1000) (h : ∀ a ∈ ns, -1000 ≤ a ∧ a ≤ 1000) : PyData.layable0 (.list (ns.map PyData.int)) = true := by
  have c : PyData.canLay0 (.list (ns.map PyData.int)) = true := by
    show PyData.canLayAll0 _ = true
    exact canLayAll_of fun x hx => by obtain ⟨d, hd, rfl⟩ := List.mem_map.mp hx; rfl
  have d : PyData.depth (.list (ns.map PyData.int)) ≤ 1 := by
    show PyData.depthAll _ + 1 ≤ 1
    exact Nat.succ_le_succ (depthAll_le fun x hx => by obtain ⟨d, hd, rfl⟩ := List.mem_map.mp hx; exact Nat.le_refl 0)
  have w : PyData.weight (.list (ns.map PyData.int)) ≤ 13 * ns.length := by
    show PyData.weightAll _ ≤ _
    clear hl c d
    induction ns with
    | nil => simp [PyData.weightAll]
    | cons a ns ih =>
      have ih := ih fun b hb => h b (.tail _ hb)
      have ha := h a (.head _)
      rw [List.map_cons, PyData.weightAll, PyData.weight, List.length_cons]
      have : (if (a == 0) = true then 0 else a.natAbs.log2 + 1) ≤ 12 := by
        split
        · omega
        · rename_i h0
          have h0' : a ≠ 0 := by simpa using h0
          have : a.natAbs.log2 < 11 := (Nat.log2_lt (by omega)).mpr (by omega)
          omega
      omega
  unfold PyData.layable0
  rw [c]
  simp
  omega
end Mine
namespace Mine
theorem getD_int {l : List Int} {i : Nat} (h : i < l.length) : (l.map D.int)[i]? = some (D.int (l.getD i 0)) := by
  rw [List.getElem?_map, List.getD_eq_getElem?_getD, List.getElem?_eq_getElem h]; rfl
end Mine
end

section
open PySem PySem.W PyProof.Rows PySem.Calls PySem.SeqAt PySem.Builtin PySem.Builtin.Re
set_option Elab.async false
set_option linter.unusedVariables false
namespace Mine
set_option maxRecDepth 100000
theorem plainAttrs_pattern : PlainAttrs "re.Pattern" :=
  ⟨⟨"object.__getattribute__", by rw [typeLookup_type, builtinLookup_eq_fast]; kernel_rfl, by decide +kernel⟩, by rw [typeLookup_type, builtinLookup_eq_fast]; kernel_rfl⟩
theorem plainAttrs_match : PlainAttrs "re.Match" :=
  ⟨⟨"object.__getattribute__", by rw [typeLookup_type, builtinLookup_eq_fast]; kernel_rfl, by decide +kernel⟩, by rw [typeLookup_type, builtinLookup_eq_fast]; kernel_rfl⟩
theorem slot_search : Slot "re.Pattern" "search" "re.Pattern.search" :=
  .of (owner := "re.Pattern") (n := "search") (by rw [typeLookup_type, builtinLookup_eq_fast]; kernel_rfl) (by decide +kernel) (by decide +kernel) (by decide +kernel)
    (by first | exact .inl (by decide +kernel) | exact .inr (by decide +kernel)) (by rw [isSubtype_type]; kernel_rfl)
theorem type_search : typeOf (.builtin "re.Pattern.search") = pure (.type "method_descriptor") := by show builtinType _ = _; rw [builtinType_eq_fast]; kernel_rfl
theorem entry_search : entryFor table "re.Pattern.search" = some Builtin.«re.Pattern.search» := entryFor_of_tree (by kernel_rfl)
theorem slot_sub : Slot "re.Pattern" "sub" "re.Pattern.sub" :=
  .of (owner := "re.Pattern") (n := "sub") (by rw [typeLookup_type, builtinLookup_eq_fast]; kernel_rfl) (by decide +kernel) (by decide +kernel) (by decide +kernel)
    (by first | exact .inl (by decide +kernel) | exact .inr (by decide +kernel)) (by rw [isSubtype_type]; kernel_rfl)
theorem type_sub : typeOf (.builtin "re.Pattern.sub") = pure (.type "method_descriptor") := by show builtinType _ = _; rw [builtinType_eq_fast]; kernel_rfl
theorem entry_sub : entryFor table "re.Pattern.sub" = some Builtin.«re.Pattern.sub» := entryFor_of_tree (by kernel_rfl)
theorem slot_group : Slot "re.Match" "group" "re.Match.group" :=
  .of (owner := "re.Match") (n := "group") (by rw [typeLookup_type, builtinLookup_eq_fast]; kernel_rfl) (by decide +kernel) (by decide +kernel) (by decide +kernel)
    (by first | exact .inl (by decide +kernel) | exact .inr (by decide +kernel)) (by rw [isSubtype_type]; kernel_rfl)
theorem type_group : typeOf (.builtin "re.Match.group") = pure (.type "method_descriptor") := by show builtinType _ = _; rw [builtinType_eq_fast]; kernel_rfl
theorem entry_group : entryFor table "re.Match.group" = some Builtin.«re.Match.group» := entryFor_of_tree (by kernel_rfl)
theorem owner_pattern : Manifest.owners.lookup (String.ofList ['n', 'r', 'e', 't', 't', 'a', 'P', '.', 'e', 'r'].reverse) = some Manifest.sig_re_Pattern := by kernel_rfl
theorem owner_match : Manifest.owners.lookup (String.ofList ['h', 'c', 't', 'a', 'M', '.', 'e', 'r'].reverse) = some Manifest.sig_re_Match := by kernel_rfl
theorem args_search (a b : Value) : argsOk "re.Pattern.search" ⟨[a, b], []⟩ := by
  unfold argsOk; rw [signature?_of (id := "re.Pattern.search") (n := ['h', 'c', 'r', 'a', 'e', 's']) (o := ['n', 'r', 'e', 't', 't', 'a', 'P', '.', 'e', 'r']) (by kernel_rfl) owner_pattern]; kernel_rfl
theorem args_sub (a b c : Value) : argsOk "re.Pattern.sub" ⟨[a, b, c], []⟩ := by
  unfold argsOk; rw [signature?_of (id := "re.Pattern.sub") (n := ['b', 'u', 's']) (o := ['n', 'r', 'e', 't', 't', 'a', 'P', '.', 'e', 'r']) (by kernel_rfl) owner_pattern]; kernel_rfl
theorem args_group (a b : Value) : argsOk "re.Match.group" ⟨[a, b], []⟩ := by
  unfold argsOk; rw [signature?_of (id := "re.Match.group") (n := ['p', 'u', 'o', 'r', 'g']) (o := ['h', 'c', 't', 'a', 'M', '.', 'e', 'r']) (by kernel_rfl) owner_match]; kernel_rfl

section
variable {prog : Program} {w : World} {A : Around} {E : Value → Shared → Prop} {s : Shared}
theorem wpAny_quiet_loop {f : Nat → PUnit → Sem (ForInStep PUnit)} (hf : ∀ i u (Q : ForInStep PUnit → Shared → Prop) s, Q (.yield ⟨⟩) s → wpAny (model prog w) A (f i u) Q E s) :
    ∀ (l : List Nat) {Q : PUnit → Shared → Prop} {s : Shared}, Q ⟨⟩ s → wpAny (model prog w) A (forIn l ⟨⟩ f) Q E s
  | [], Q, s, h => by rw [List.forIn_nil]; exact wpAny_pure h
  | i :: l, Q, s, h => by
    rw [List.forIn_cons]
    exact wpAny_bind (hf i ⟨⟩ _ s (wpAny_quiet_loop hf l h))

theorem runFor_some {m : Sre.M} (h : m.outcome.isSome = true) : ∀ n, m.runFor n = m
  | 0 => rfl
  | n + 1 => by unfold Sre.M.runFor; rw [if_pos h]
theorem runFor_step {m : Sre.M} (h : ¬ m.outcome.isSome = true) (n : Nat) : m.runFor (n + 1) = m.step.runFor n := by
  show (if m.outcome.isSome = true then m else m.step.runFor n) = _
  rw [if_neg h]
theorem runFor_add (a b : Nat) : ∀ m : Sre.M, m.runFor (a + b) = (m.runFor a).runFor b := by
  induction a with
  | zero => intro m; rw [Nat.zero_add]; rfl
  | succ a ih =>
    intro m
    rw [Nat.add_right_comm]
    by_cases h : m.outcome.isSome = true
    · rw [runFor_some h, runFor_some h, runFor_some h]
    · rw [runFor_step h, runFor_step h]
      exact ih _
theorem wpAny_reDrive : ∀ (k fuel : Nat) (m : Sre.M) (Q : Sre.M → Shared → Prop) (s : Shared), k < fuel → (m.runFor (4 * (k + 1))).outcome.isSome = true → Q (m.runFor (4 * (k + 1))) s → wpAny (model prog w) A (reDrive fuel m) Q E s
  | k, 0, m, Q, s, h, _, _ => absurd h (Nat.not_lt_zero _)
  | k, fuel + 1, m, Q, s, h, ho, hQ => by
    unfold reDrive
    show wpAny _ _ (if (m.runFor 4).outcome.isSome = true then pure (m.runFor 4) else (rule "sre.turn" >>= fun _ => reDrive fuel (m.runFor 4))) _ _ _
    by_cases h4 : (m.runFor 4).outcome.isSome = true
    · rw [if_pos h4]
      have e : m.runFor (4 * (k + 1)) = m.runFor 4 := by
        rw [show 4 * (k + 1) = 4 + 4 * k by omega, runFor_add, runFor_some h4]
      rw [e] at hQ
      exact wpAny_pure hQ
    · rw [if_neg h4]
      refine wpAny_bind (wpAny_rule ?_)
      cases k with
      | zero => exact absurd ho h4
      | succ k =>
        have e : m.runFor (4 * (k + 1 + 1)) = (m.runFor 4).runFor (4 * (k + 1)) := by
          rw [show 4 * (k + 1 + 1) = 4 + 4 * (k + 1) by omega, runFor_add]
        rw [e] at ho hQ
        exact wpAny_reDrive k fuel _ Q s (by omega) ho hQ
theorem wpAny_reRunToEnd {m : Sre.M} {k : Nat} {b : Bool} {Q : Option Sre.M → Shared → Prop} (hk : k < 2 ^ 64) (ho : (m.runFor (4 * (k + 1))).outcome = some (if b then .matched else .failed)) (hQ : Q (if b then some (m.runFor (4 * (k + 1))) else none) s) :
    wpAny (model prog w) A (reRunToEnd m) Q E s := by
  unfold reRunToEnd
  refine wpAny_bind (wpAny_reDrive k (2 ^ 64) m _ s hk (by rw [ho]; rfl) ?_)
  refine wpAny_bind (wpAny_quiet_loop (fun i u Q s h => ?_) _ ?_)
  · split
    · exact wpAny_bind (wpAny_rule (wpAny_pure h))
    · exact wpAny_pure h
  · cases b with
    | true =>
      simp only [if_true] at ho hQ
      rw [ho]
      exact wpAny_pure hQ
    | false =>
      simp only [Bool.false_eq_true, if_false] at ho hQ
      rw [ho]
      exact wpAny_pure hQ
theorem reNamed_search (p : Value) (string : Value) : reNamed "re.Pattern.search" "search" ["string", "pos", "endpos"] 1 [string] [] = pure [some string, none, none] := by rfl

/-- where a group of a match begins and ends: -1 twice where it has no part in it -/
def spanAt (m : Sre.M) (g : Nat) : Int × Int :=
  if 2 * (g : Int) < m.lastmark then
    (m.marks.getD (2 * g) none).elim (-1, -1) fun b => (m.marks.getD (2 * g + 1) none).elim (-1, -1) fun e => ((b : Int), (e : Int))
  else (-1, -1)
/-- the spans of a match: its own, then those of its groups -/
def spansOf (groups : Nat) (m : Sre.M) : List Int := (m.start : Int) :: (m.handed : Int) :: (List.range groups).flatMap fun g => [(spanAt m g).1, (spanAt m g).2]
def goodSpans (groups : Nat) (m : Sre.M) : Bool := (List.range groups).all fun g => decide ((spanAt m g).1 ≤ (spanAt m g).2)
theorem newTuple_eq {vs vs' : List Value} {Q : Value → Shared → Prop} (e : vs = vs') (h : wpAny (model prog w) A (newTuple vs') Q E s) : wpAny (model prog w) A (newTuple vs) Q E s := by
  rw [e]; exact h
theorem wpAny_reNewMatch {p : Value} {x : Value} {groups pos lim : Nat} {m : Sre.M} {Q : Value → Shared → Prop} (hg : goodSpans groups m = true) (hl : (spansOf groups m).length ≤ sizeLine)
    (hQ : Q (.ref (s.heap.objs.size + 1)) { s with heap := (s.heap.push { cls := .type "tuple", data := .seq ((spansOf groups m).map rawInt).toArray }).push { cls := .type "re.Match", data := .fields #[x, p, rawInt pos, rawInt lim, rawInt m.lastindex, .ref s.heap.objs.size] } }) :
    wpAny (model prog w) A (reNewMatch p x groups pos lim m) Q E s := by
  unfold reNewMatch
  unfold goodSpans at hg
  refine wpAny_ite (KPc.ite_no ?_ ?_)
  · rw [List.any_eq_true]
    rintro ⟨g, hm, hw⟩
    have ok : (spanAt m g).1 ≤ (spanAt m g).2 := of_decide_eq_true (List.all_eq_true.mp hg g hm)
    unfold spanAt at ok
    cases h1 : m.marks.getD (2 * g) none with
    | none => rw [h1] at hw; cases hw
    | some b =>
      cases h2 : m.marks.getD (2 * g + 1) none with
      | none => rw [h1, h2] at hw; cases hw
      | some e =>
        rw [h1, h2] at hw ok
        simp only [Bool.and_eq_true, decide_eq_true_eq, Option.elim_some] at hw ok
        rw [if_pos (by omega)] at ok
        simp only at ok
        omega
  refine wpAny_bind (newTuple_eq (vs' := (spansOf groups m).map rawInt) ?_ (wpAny_newTuple ?_ (by rw [List.length_map]; exact hl)))
  · unfold spansOf
    rw [List.map_cons, List.map_cons, List.map_flatMap]
    refine congrArg (fun f => rawInt m.start :: rawInt m.handed :: (List.range groups).flatMap f) (funext fun g => ?_)
    unfold spanAt
    by_cases hl : 2 * (g : Int) < m.lastmark
    · rw [if_pos hl, if_pos (by omega)]
      cases m.marks.getD (2 * g) none <;> cases m.marks.getD (2 * g + 1) none <;> rfl
    · rw [if_neg hl, if_neg (by omega)]
      rfl
  refine wpAny_newObj_type ?_ (by size_fits)
  show Q (.ref (s.heap.push _).objs.size) _
  rw [Heap.size_push]
  exact hQ

variable {K : Frag} {n : Nat} {env : Env} {σ : Sg}
theorem wpAny_reRawItems {a : Addr} {cls : Value} {items : Array Value} {nn : Nat} {od : Option Addr} {sl : Array (Option Value)} {Q : Array Int → Shared → Prop} (h : s.heap.get? a = some { cls := cls, dict := od, data := .seq items nn, slots := sl }) (hQ : Q (items.map reRawOf) s) : wpAny (model prog w) A (reRawItems (.ref a)) Q E s := by
  unfold reRawItems
  exact wpAny_bind (wpAny_seqItems h rfl (wpAny_pure hQ))
theorem wpAny_reTextOf_str {x : Str} {t : Tok} {Q : Array Nat × Nat → Shared → Prop} (h : Q (x.cps, 0) s) : wpAny (model prog w) A (reTextOf (.str x t)) Q E s := by
  unfold reTextOf
  exact wpAny_bind (wpAny_of_eq (a := some x) rfl (wpAny_pure h))
theorem wpAny_noCollection {v : Value} {Q : Unit → Shared → Prop} (h : Q () s) : wpAny (model prog w) A (reNoCollectionInside v 0) Q E s := by
  unfold reNoCollectionInside
  exact wpAny_pure h

theorem wpAny_search {a c : Addr} {cls : Value} {vs items : Array Value} {nn : Nat} {x : Str} {t : Tok} {k groups : Nat} {b : Bool} {M : Sre.M} {Q : Fin → Shared → Prop} (ha : s.heap.get? a = some { cls := cls, data := .fields vs }) (h6 : reRawNat (vs.getD 6 .none) = 0) (h2 : reRawNat (vs.getD 2 .none) = groups) (h5 : vs.getD 5 .none = .ref c)
    (hc : s.heap.get? c = some { cls := .type "tuple", data := .seq items nn }) (hx : x.cps.size < 2 ^ 63) (hk : k < 2 ^ 64) (hM : (Sre.forSearch ((items.map reRawOf).map Int.toNat) x.cps groups 0 x.cps.size false).runFor (4 * (k + 1)) = M)
    (ho : M.outcome = some (if b then .matched else .failed))
    (hg : goodSpans groups M = true)
    (hl : (spansOf groups M).length ≤ sizeLine)
    (hQ : ∀ v h', (∀ b o, s.heap.get? b = some o → h'.get? b = some o) → (if b then ∃ q tup p pos lim li, v = .ref q ∧ s.heap.get? q = none ∧ s.heap.get? tup = none ∧ h'.get? q = some { cls := .type "re.Match", data := .fields #[.str x t, p, pos, lim, li, .ref tup] } ∧ h'.get? tup = some { cls := .type "tuple", data := .seq ((spansOf groups M).map rawInt).toArray } else v = .none) → Q (.done (.ret v)) { s with heap := h' }) :
    wpAny (model prog w) A (Builtin.«re.Pattern.search» ⟨[.ref a, .str x t], []⟩) Q E s := by
  unfold Builtin.«re.Pattern.search» reTarget
  refine wpAny_bind ?_
  refine wpAny_bind (wpAny_of_eq (reNamed_search (.ref a) (.str x t)) ?_)
  refine wpAny_bind (wpAny_pure ?_)
  refine wpAny_bind (wpAny_pure ?_)
  refine wpAny_bind (wpAny_fieldsOf ha rfl ?_)
  refine wpAny_bind (wpAny_reTextOf_str ?_)
  dsimp only
  rw [h6]
  refine wpAny_ite (KPc.ite_no (by decide) ?_)
  refine wpAny_ite (KPc.ite_no (by decide) ?_)
  refine wpAny_bind (wpAny_noCollection ?_)
  rw [h5, h2]
  refine wpAny_bind (wpAny_reRawItems hc ?_)
  refine wpAny_pure ?_
  have e0 : min (0 : Int).toNat x.cps.size = 0 := by simp
  have e1 : min ((2 : Int) ^ 63 - 1).toNat x.cps.size = x.cps.size := by omega
  rw [e0, e1]
  unfold reAnswer
  dsimp only
  refine wpAny_bind (wpAny_reRunToEnd hk (by rw [hM]; exact ho) ?_)
  rw [hM]
  cases b with
  | true =>
    refine wpAny_bind (wpAny_reNewMatch hg hl ?_)
    refine wpAny_pure (hQ _ _ (fun b o e => Heap.get?_push_of_some _ (Heap.get?_push_of_some _ e)) ?_)
    refine ⟨_, _, .ref a, rawInt (0 : Nat), rawInt x.cps.size, rawInt M.lastindex, rfl, size_none (Nat.le_succ _), size_none (Nat.le_refl _), ?_, Heap.get?_push_of_some _ (Heap.get?_push_size _ rfl)⟩
    have := Heap.get?_push_size (s.heap.push { cls := .type "tuple", data := .seq ((spansOf groups M).map rawInt).toArray }) (o := { cls := .type "re.Match", data := .fields #[.str x t, .ref a, rawInt (0 : Nat), rawInt x.cps.size, rawInt M.lastindex, .ref s.heap.objs.size] }) rfl
    rw [Heap.size_push] at this
    exact this
  | false => exact wpAny_pure (hQ _ s.heap (fun _ _ e => e) rfl)

theorem spans_back (l : List Int) : ((l.map rawInt).toArray).map reRawOf = l.toArray := by
  rw [List.map_toArray, List.map_map]
  congr 1
  induction l with
  | nil => rfl
  | cons a l ih => rw [List.map_cons, ih]; rfl
def groupD (x : Str) (spans : List Int) (g : Nat) : D :=
  if spans.getD (2 * g) (-1) < 0 ∨ spans.getD (2 * g + 1) (-1) < 0 then .none else .str ⟨x.cps.extract (spans.getD (2 * g) (-1)).toNat (spans.getD (2 * g + 1) (-1)).toNat⟩
theorem OpV.group {x : Str} {spans : List Int} {g : Nat} (hg : 2 * g < spans.length) (hx : x.cps.size ≤ sizeLine) : OpV prog w K n env σ (fun vs => PySem.call (.builtin "re.Match.group") vs) [.mat x spans, .int g] (groupD x spans g) := fun A s gg E vs P I => by
  cases I with
  | cons i r =>
  cases r with
  | cons j r =>
  cases r
  cases j with
  | int _ tg =>
  cases i with
  | @mat q tup _ t p pos lim li nn _ h1 h2 =>
  have e1 := P.sub _ _ h1
  have e2 := P.sub _ _ h2
  refine wpAny_call_entry slot_group ⟨_, e1, rfl⟩ entry_group ?_ (args_group _ _)
  unfold Builtin.«re.Match.group»
  refine wpAny_bind (wpAny_pure ?_)
  unfold reFound
  refine wpAny_bind ?_
  refine wpAny_bind (wpAny_fieldsOf e1 rfl ?_)
  refine wpAny_bind (wpAny_reRawItems e2 ?_)
  refine wpAny_pure ?_
  rw [spans_back]
  unfold reGroupNumber
  refine wpAny_bind ?_
  refine wpAny_bind (wpAny_of_eq (a := some (g : Int)) rfl ?_)
  refine wpAny_ite (KPc.ite_yes (c := (some (g : Int)).isSome = true) rfl ?_)
  refine wpAny_bind (wpAny_of_eq (a := (g : Int)) rfl ?_)
  refine wpAny_ite (KPc.ite_no ?_ ?_)
  · simp
    omega
  refine wpAny_pure ?_
  unfold reGroupText
  have e3 : spans.toArray.getD (2 * (g : Int).toNat) (-1) = spans.getD (2 * g) (-1) := by simp
  have e4 : spans.toArray.getD (2 * (g : Int).toNat + 1) (-1) = spans.getD (2 * g + 1) (-1) := by simp
  dsimp only
  rw [e3, e4]
  unfold groupD
  by_cases hb : spans.getD (2 * g) (-1) < 0 ∨ spans.getD (2 * g + 1) (-1) < 0
  · rw [if_pos hb]
    refine wpAny_bind (wpAny_ite (KPc.ite_yes (by simpa using hb) ?_))
    exact wpAny_pure (wpAny_pure ⟨_, rfl, Post.here P .none s.toks⟩)
  · rw [if_neg hb]
    refine wpAny_bind (wpAny_ite (KPc.ite_no (by simpa using hb) ?_))
    refine wpAny_bind (wpAny_reTextOf_str ?_)
    dsimp only
    unfold reSlice
    refine wpAny_ite (KPc.ite_yes rfl ?_)
    refine wpAny_mkStr ?_ ?_
    · exact wpAny_pure ⟨_, rfl, Post.here P (.str _ _) _⟩
    · show (x.cps.extract _ _).size ≤ sizeLine
      rw [Array.size_extract]
      omega

variable {e : Expr}
theorem Te.strV {x : Str} (h : Ev prog w K n env σ e (.str x)) (hl : ¬ (x.length : Int) ≥ 2 ^ 63) (he : ∀ whole, isTrue e env whole = (do let v ← whole; standAt e.pos; holding [v] (truthy v)) := by intro _; rfl) : Te prog w K n env σ e ((x.length : Int) != 0) := fun A s g E P => by
  refine isTrue_plain (wpAny_mono (h A s g E P) (fun v s₁ h₁ => ?_) fun _ _ x => x) (he _)
  obtain ⟨k, i⟩ := h₁
  cases i
  exact PySem.P.truthy_str hl ⟨k.trans (KL.toks _ _ _), rfl⟩
theorem Te.noneV (h : Ev prog w K n env σ e .none) (he : ∀ whole, isTrue e env whole = (do let v ← whole; standAt e.pos; holding [v] (truthy v)) := by intro _; rfl) : Te prog w K n env σ e false := fun A s g E P => by
  refine isTrue_plain (wpAny_mono (h A s g E P) (fun v s₁ h₁ => ?_) fun _ _ x => x) (he _)
  obtain ⟨k, i⟩ := h₁
  cases i
  exact truthy_none ⟨k, rfl⟩
theorem noBool_match : typeLookup (.type "re.Match") "__bool__" = pure none := by rw [typeLookup_type, builtinLookup_eq_fast]; kernel_rfl
theorem noLen_match : typeLookup (.type "re.Match") "__len__" = pure none := by rw [typeLookup_type, builtinLookup_eq_fast]; kernel_rfl
theorem Te.matV {x : Str} {spans : List Int} (h : Ev prog w K n env σ e (.mat x spans)) (he : ∀ whole, isTrue e env whole = (do let v ← whole; standAt e.pos; holding [v] (truthy v)) := by intro _; rfl) : Te prog w K n env σ e true := fun A s g E P => by
  refine isTrue_plain (wpAny_mono (h A s g E P) (fun v s₁ h₁ => ?_) fun _ _ x => x) (he _)
  obtain ⟨k, i⟩ := h₁
  have P1 := P.next k
  cases i with
  | mat h1 h2 =>
  have hT : s₁.TypeIs (.ref _) "re.Match" := ⟨_, P1.sub _ _ h1, rfl⟩
  unfold truthy
  refine wpAny_bind (wpAny_callSpecial?_none (name := Str.ofString "__bool__") hT noBool_match ?_)
  refine wpAny_bind (wpAny_specialOf (name := Str.ofString "__len__") hT noLen_match ?_)
  exact wpAny_pure ⟨k, rfl⟩

/-- the search of a text by a pattern of the top -/
theorem OpV.search {ob : Obj} {pa : Addr} {vs items : Array Value} {nn : Nat} {x : Str} {c : Addr} {k groups : Nat} {b : Bool} {M : Sre.M} (hp : K.lookup pa = some ob) (hob : ob = { cls := .type "re.Pattern", data := .fields vs }) (h6 : reRawNat (vs.getD 6 .none) = 0) (h2 : reRawNat (vs.getD 2 .none) = groups) (h5 : vs.getD 5 .none = .ref c)
    (hc : K.lookup c = some { cls := .type "tuple", data := .seq items nn }) (hx : x.cps.size < 2 ^ 63) (hk : k < 2 ^ 64)
    (hM : (Sre.forSearch ((items.map reRawOf).map Int.toNat) x.cps groups 0 x.cps.size false).runFor (4 * (k + 1)) = M) (ho : M.outcome = some (if b then .matched else .failed)) (hg : goodSpans groups M = true) (hl : (spansOf groups M).length ≤ sizeLine) :
    OpV prog w K n env σ (fun vs => PySem.call (.builtin "re.Pattern.search") vs) [.adr pa, .str x] (if b then .mat x (spansOf groups M) else .none) := fun A s g E us P I => by
  subst hob
  cases I with
  | cons i r =>
  cases r with
  | cons j r =>
  cases r
  cases j
  cases i
  have e1 := P.gd.in P.sub _ _ hp
  have e2 := P.gd.in P.sub _ _ hc
  refine wpAny_call_entry slot_search ⟨_, e1, rfl⟩ entry_search ?_ (args_search _ _)
  refine wpAny_search e1 h6 h2 h5 e2 hx hk hM ho hg hl fun v h' keep hv => ⟨v, rfl, KL.of_keep (t := s.toks) keep, ?_⟩
  cases b with
  | true =>
    obtain ⟨q, tup, p, pos, lim, li, rfl, f1, f2, g1, g2⟩ := hv
    exact .mat (by rw [grow_new f1]; exact g1) (by rw [grow_new f2]; exact g2)
  | false =>
    have hv : v = .none := hv
    subst hv
    exact .none

theorem Op2.inK {x : Str} {a : Addr} {es : Array DictEntry} {nn : Nat} (hl : K.lookup a = some ⟨.type "dict", Option.none, .dict es nn, #[]⟩) (hk : KeysLit w.params es.toList) (lo : (a == sysModules) = false) :
    Op2 prog w K n env σ (compareOp .In) (.str x) (.adr a) (.bool (findBy Value.isStrOf es x).isSome) := fun A s g E v u P hv hu => by
  cases hv
  cases hu
  exact wpAny_in_of (strKind_is prog w x _) lo (mapOf_K (prog := prog) (P.gd.in P.sub) hl hk) (Post.here P (.bool _) _)
/-- a name of the top that is an object of the written heap -/
theorem Of.adr {a : Addr} {T : String} {o : Obj} (h : K.lookup a = some o) (hc : o.cls = .type T) (hd : o.dict = Option.none) {g : FH} (G : Gd K g) {v : Value} {s : Shared} (i : Is g v (.adr a)) (S : Sub g s.heap) : s.TypeIs v T ∧ ∀ b, v = .ref b → ∃ ob, s.heap.get? b = some ob ∧ ob.dict = Option.none := by
  cases i
  have e := G.in S _ _ h
  exact ⟨⟨_, e, hc⟩, fun b q => by cases q; exact ⟨_, e, hd⟩⟩
end
end Mine
end

section
open PySem PySem.W PyProof.Rows PySem.Calls PySem.SeqAt PySem.Builtin PySem.Builtin.Re
set_option Elab.async false
set_option linter.unusedVariables false
namespace Mine
set_option maxRecDepth 100000
/-- the machine at the first word of an attempt -/
def atA (c t : Array Nat) (lim s : Nat) (f mu : Bool) (sn : Sre.Seen) : Sre.M :=
  { code := c, text := t, lim := lim, start := s, lastStart := lim, mustAdvance := mu, pc := 5, pos := s, handed := s, outermost := f, marks := #[], frames := [{ wait := .nextStart, pc := 5, pos := s, outermost := f }], weight := 1, seen := sn }
def bol (t : Array Nat) (s : Nat) : Bool := s == 0 || t.getD (s - 1) 0 == 10
def eol (t : Array Nat) (lim s : Nat) : Bool := s == lim || t.getD s 0 == 10
abbrev C : Array Nat := #[14, 4, 0, 0, 0, 6, 1, 5, 5, 0, 6, 6, 1, 1]
section
variable {t : Array Nat} {lim s : Nat} {f mu : Bool} {sn : Sre.Seen}
theorem step_at : (atA C t lim s f mu sn).step = if bol t s = true then { atA C t lim s f mu ((sn.add 6).add 44) with pc := 7 } else { atA C t lim s f mu ((sn.add 6).add 44) with answer := some false } := rfl
theorem step_not : ({ atA C t lim s f mu sn with pc := 7 } : Sre.M).step = { atA C t lim s f mu (sn.add 5) with pc := 10, outermost := false, frames := [{ wait := .lookNot, pc := 7, pos := s, outermost := f, kept := { lastmark := -1, lastindex := -1 } }, { wait := .nextStart, pc := 5, pos := s, outermost := f }], weight := 2 } := by
  rfl
theorem step_end : ({ atA C t lim s f mu sn with pc := 10, outermost := false, frames := [{ wait := .lookNot, pc := 7, pos := s, outermost := f, kept := { lastmark := -1, lastindex := -1 } }, { wait := .nextStart, pc := 5, pos := s, outermost := f }], weight := 2 } : Sre.M).step =
    if eol t lim s = true then { atA C t lim s f mu ((sn.add 6).add 49) with pc := 12, outermost := false, frames := [{ wait := .lookNot, pc := 7, pos := s, outermost := f, kept := { lastmark := -1, lastindex := -1 } }, { wait := .nextStart, pc := 5, pos := s, outermost := f }], weight := 2 }
    else { atA C t lim s f mu ((sn.add 6).add 49) with pc := 10, answer := some false, outermost := false, frames := [{ wait := .lookNot, pc := 7, pos := s, outermost := f, kept := { lastmark := -1, lastindex := -1 } }, { wait := .nextStart, pc := 5, pos := s, outermost := f }], weight := 2 } := rfl
theorem step_in : ({ atA C t lim s f mu sn with pc := 12, outermost := false, frames := [{ wait := .lookNot, pc := 7, pos := s, outermost := f, kept := { lastmark := -1, lastindex := -1 } }, { wait := .nextStart, pc := 5, pos := s, outermost := f }], weight := 2 } : Sre.M).step.step =
    { atA C t lim s f mu (sn.add 1) with pc := 7, answer := some false } := rfl
theorem step_out : ({ atA C t lim s f mu sn with pc := 10, answer := some false, outermost := false, frames := [{ wait := .lookNot, pc := 7, pos := s, outermost := f, kept := { lastmark := -1, lastindex := -1 } }, { wait := .nextStart, pc := 5, pos := s, outermost := f }], weight := 2 } : Sre.M).step =
    { atA C t lim s f mu sn with pc := 13 } := rfl
theorem step_fin : ({ atA C t lim s f mu sn with pc := 13 } : Sre.M).step = if (f && ((false && s != lim) || (mu && s == s))) = true then { atA C t lim s f mu (sn.add 1) with pc := 13, answer := some false } else { atA C t lim s f mu (sn.add 1) with pc := 13, answer := some true } := rfl
theorem step_won : ({ atA C t lim s f mu sn with pc := 13, answer := some true } : Sre.M).step.step = { atA C t lim s f mu sn with frames := [], weight := 0, answer := some true, outcome := some .matched } := rfl
theorem step_lost (k : Nat) : ({ atA C t lim s f mu sn with pc := k, answer := some false } : Sre.M).step = if s < lim then atA C t lim (s + 1) false false sn else { atA C t lim s f mu sn with frames := [], weight := 0, answer := some false } := rfl
theorem step_dead : ({ atA C t lim s f mu sn with frames := [], weight := 0, answer := some false } : Sre.M).step.outcome = some .failed := rfl

theorem run1 {m m' : Sre.M} (h : m.outcome = none) (e : m.step = m') : m.runFor 1 = m' := by
  rw [runFor_step (by rw [h]; exact Bool.false_ne_true), e]; rfl
theorem run2 {m m' : Sre.M} (h : m.outcome = none) (h2 : m.step.outcome = none) (e : m.step.step = m') : m.runFor 2 = m' := by
  rw [show (2 : Nat) = 1 + 1 from rfl, runFor_add, run1 h rfl, run1 h2 e]
/-- how an attempt at s ends -/
def wins (t : Array Nat) (lim s : Nat) (sk : Bool) : Bool := bol t s && !eol t lim s && !sk
theorem attempt_ends (t : Array Nat) (lim s : Nat) (f mu : Bool) (sn : Sre.Seen) : ∃ k sn', k ≤ 5 ∧
    if wins t lim s (f && mu) = true then (atA C t lim s f mu sn).runFor k = { atA C t lim s f mu sn' with pc := 13, answer := some true }
    else ∃ j, (atA C t lim s f mu sn).runFor k = { atA C t lim s f mu sn' with pc := j, answer := some false } := by
  cases hb : bol t s with
  | false =>
    refine ⟨1, (sn.add 6).add 44, by omega, ?_⟩
    rw [if_neg (by unfold wins; rw [hb]; exact Bool.false_ne_true)]
    refine ⟨5, ?_⟩
    rw [run1 rfl step_at, if_neg (by rw [hb]; exact Bool.false_ne_true)]
    rfl
  | true =>
    have h1 : (atA C t lim s f mu sn).runFor 1 = { atA C t lim s f mu ((sn.add 6).add 44) with pc := 7 } := by
      rw [run1 rfl step_at, if_pos hb]
    generalize (sn.add 6).add 44 = sn1 at h1
    have h2 := run1 (m := { atA C t lim s f mu sn1 with pc := 7 }) rfl (step_not (t := t) (lim := lim) (s := s) (f := f) (mu := mu) (sn := sn1))
    generalize sn1.add 5 = sn2 at h2
    have h12 := runFor_add 1 1 (atA C t lim s f mu sn)
    rw [h1, h2] at h12
    have h3 := run1 (m := { atA C t lim s f mu sn2 with pc := 10, outermost := false, frames := [{ wait := .lookNot, pc := 7, pos := s, outermost := f, kept := { lastmark := -1, lastindex := -1 } }, { wait := .nextStart, pc := 5, pos := s, outermost := f }], weight := 2 }) rfl (step_end (t := t) (lim := lim) (s := s) (f := f) (mu := mu) (sn := sn2))
    have h13 := runFor_add 2 1 (atA C t lim s f mu sn)
    rw [h12, h3] at h13
    generalize (sn2.add 6).add 49 = sn3 at h13
    cases he : eol t lim s with
    | true =>
      rw [if_pos he] at h13
      have h4 := run2 (m := { atA C t lim s f mu sn3 with pc := 12, outermost := false, frames := [{ wait := .lookNot, pc := 7, pos := s, outermost := f, kept := { lastmark := -1, lastindex := -1 } }, { wait := .nextStart, pc := 5, pos := s, outermost := f }], weight := 2 }) rfl rfl (step_in (t := t) (lim := lim) (s := s) (f := f) (mu := mu) (sn := sn3))
      have h14 := runFor_add 3 2 (atA C t lim s f mu sn)
      rw [h13, h4] at h14
      refine ⟨5, sn3.add 1, by omega, ?_⟩
      rw [if_neg (by unfold wins; rw [hb, he]; exact Bool.false_ne_true)]
      exact ⟨7, h14⟩
    | false =>
      rw [if_neg (by rw [he]; exact Bool.false_ne_true)] at h13
      have h4 := run1 (m := { atA C t lim s f mu sn3 with pc := 10, answer := some false, outermost := false, frames := [{ wait := .lookNot, pc := 7, pos := s, outermost := f, kept := { lastmark := -1, lastindex := -1 } }, { wait := .nextStart, pc := 5, pos := s, outermost := f }], weight := 2 }) rfl (step_out (t := t) (lim := lim) (s := s) (f := f) (mu := mu) (sn := sn3))
      have h14 := runFor_add 3 1 (atA C t lim s f mu sn)
      rw [h13, h4] at h14
      have h5 := run1 (m := { atA C t lim s f mu sn3 with pc := 13 }) rfl (step_fin (t := t) (lim := lim) (s := s) (f := f) (mu := mu) (sn := sn3))
      have h15 := runFor_add 4 1 (atA C t lim s f mu sn)
      rw [h14, h5] at h15
      have ec : (f && ((false && s != lim) || (mu && s == s))) = (f && mu) := by cases f <;> cases mu <;> simp
      rw [ec] at h15
      refine ⟨5, sn3.add 1, by omega, ?_⟩
      have ew : wins t lim s (f && mu) = !(f && mu) := by unfold wins; rw [hb, he]; rfl
      rw [ew]
      cases hf : (f && mu) with
      | true =>
        rw [hf, if_pos rfl] at h15
        rw [if_neg (by exact Bool.false_ne_true)]
        exact ⟨13, h15⟩
      | false =>
        rw [hf, if_neg Bool.false_ne_true] at h15
        rw [if_pos (show (!false) = true from rfl)]
        exact h15
/-- the next place of a match -/
def nextQ (t : Array Nat) (lim : Nat) : Nat → Nat → Bool → Option Nat
  | 0, s, sk => if wins t lim s sk then some s else none
  | n + 1, s, sk => if wins t lim s sk then some s else nextQ t lim n (s + 1) false
def Ended (M : Sre.M) : Option Nat → Prop
  | some q => M.outcome = some .matched ∧ M.start = q ∧ M.handed = q
  | none => M.outcome = some .failed
theorem search_ends (t : Array Nat) (lim : Nat) : ∀ (n s : Nat) (f mu : Bool) (sn : Sre.Seen), s + n = lim → ∃ k, k ≤ 8 * (n + 1) ∧ Ended ((atA C t lim s f mu sn).runFor k) (nextQ t lim n s (f && mu))
  | n, s, f, mu, sn, hs => by
    obtain ⟨k, sn', hk, h⟩ := attempt_ends t lim s f mu sn
    by_cases hw : wins t lim s (f && mu) = true
    · rw [if_pos hw] at h
      have h2 := run2 (m := { atA C t lim s f mu sn' with pc := 13, answer := some true }) rfl rfl step_won
      have h3 := runFor_add k 2 (atA C t lim s f mu sn)
      rw [h, h2] at h3
      refine ⟨k + 2, by omega, ?_⟩
      have e : nextQ t lim n s (f && mu) = some s := by cases n <;> (unfold nextQ; rw [if_pos hw])
      rw [e, h3]
      exact ⟨rfl, rfl, rfl⟩
    · rw [if_neg hw] at h
      obtain ⟨j, h⟩ := h
      have h2 := run1 (m := { atA C t lim s f mu sn' with pc := j, answer := some false }) rfl (step_lost (t := t) (lim := lim) (s := s) (f := f) (mu := mu) (sn := sn') j)
      have h3 := runFor_add k 1 (atA C t lim s f mu sn)
      rw [h, h2] at h3
      cases n with
      | zero =>
        rw [if_neg (by omega)] at h3
        have e : nextQ t lim 0 s (f && mu) = none := by unfold nextQ; rw [if_neg hw]
        have h4 := runFor_add (k + 1) 1 (atA C t lim s f mu sn)
        rw [h3, run1 rfl rfl] at h4
        refine ⟨k + 1 + 1, by omega, ?_⟩
        rw [e, h4]
        exact step_dead
      | succ n =>
        rw [if_pos (by omega)] at h3
        have e : nextQ t lim (n + 1) s (f && mu) = nextQ t lim n (s + 1) false := by
          rw [nextQ, if_neg hw]
        obtain ⟨k2, hk2, h4⟩ := search_ends t lim n (s + 1) false false sn' (by omega)
        refine ⟨k + 1 + k2, by omega, ?_⟩
        rw [e, runFor_add, h3]
        exact h4
end
end Mine
end

section
open PySem PySem.W PyProof.Rows PySem.Calls PySem.SeqAt PySem.Builtin PySem.Builtin.Re
set_option Elab.async false
set_option linter.unusedVariables false
namespace Mine
set_option maxRecDepth 100000
def outF (t : Array Nat) (lim : Nat) (pad : List Nat) : Nat → Nat → Bool → List Nat
  | 0, _, _ => []
  | n + 1, s, sk => (if wins t lim s sk then pad else []) ++ t.getD s 0 :: outF t lim pad n (s + 1) false
theorem wins_lim (t : Array Nat) (lim : Nat) (sk : Bool) : wins t lim lim sk = false := by
  unfold wins eol
  simp
def seg (t : Array Nat) (s q : Nat) : List Nat := (t.extract s q).toList
theorem seg_cons {t : Array Nat} {s q : Nat} (h : s < q) (hq : q ≤ t.size) : seg t s q = t.getD s 0 :: seg t (s + 1) q := by
  unfold seg
  rw [Array.toList_extract, Array.toList_extract]
  simp only [List.extract_eq_take_drop]
  have h1 : s < t.toList.length := by rw [Array.length_toList]; omega
  rw [List.drop_eq_getElem_cons h1]
  rw [show q - s = (q - (s + 1)) + 1 by omega, List.take_succ_cons]
  congr 1
  rw [Array.getD_eq_getD_getElem?, Array.getElem?_eq_getElem (by omega)]
  simp
theorem seg_self (t : Array Nat) (s : Nat) : seg t s s = [] := by
  unfold seg
  rw [Array.toList_extract]
  simp
theorem next_none {t : Array Nat} {pad : List Nat} : ∀ (n s : Nat) (sk : Bool), s + n = t.size → nextQ t t.size n s sk = none → outF t t.size pad n s sk = seg t s t.size
  | 0, s, sk, hs, h => by
    have : s = t.size := by omega
    subst this
    rw [seg_self]; rfl
  | n + 1, s, sk, hs, h => by
    rw [nextQ] at h
    by_cases hw : wins t t.size s sk = true
    · rw [if_pos hw] at h; cases h
    · rw [if_neg hw] at h
      rw [outF, if_neg hw, next_none n (s + 1) false (by omega) h, seg_cons (s := s) (q := t.size) (by omega) (Nat.le_refl _)]
      rfl
theorem next_some {t : Array Nat} {pad : List Nat} : ∀ (n s q : Nat) (sk : Bool), s + n = t.size → nextQ t t.size n s sk = some q → s ≤ q ∧ q < t.size ∧ (q = s → sk = false) ∧ outF t t.size pad n s sk = seg t s q ++ pad ++ outF t t.size pad (t.size - q) q true
  | 0, s, q, sk, hs, h => by
    have : s = t.size := by omega
    subst this
    rw [nextQ, wins_lim] at h
    cases h
  | n + 1, s, q, sk, hs, h => by
    rw [nextQ] at h
    by_cases hw : wins t t.size s sk = true
    · rw [if_pos hw] at h
      cases h
      refine ⟨Nat.le_refl _, by omega, fun _ => ?_, ?_⟩
      · cases sk with
        | false => rfl
        | true => unfold wins at hw; simp at hw
      · rw [seg_self, outF, if_pos hw, show t.size - s = n + 1 by omega, outF]
        have : wins t t.size s true = false := by unfold wins; simp
        rw [this]
        simp
    · rw [if_neg hw] at h
      obtain ⟨h1, h2, _, h4⟩ := next_some n (s + 1) q false (by omega) h
      refine ⟨by omega, h2, fun e => by omega, ?_⟩
      rw [outF, if_neg hw, h4, seg_cons (s := s) (q := q) (by omega) (by omega)]
      simp

theorem forSearch_at {t : Array Nat} {lim s : Nat} {mu : Bool} (h : s ≤ lim) : Sre.forSearch C t 0 s lim mu = atA C t lim s true mu (({} : Sre.Seen).add 14) := by
  show (if (decide (s > lim) || decide (lim - s < 0)) = true then _ else _) = _
  rw [if_neg (by simp; omega)]
  rfl
section
variable {prog : Program} {w : World} {A : Around} {E : Value → Shared → Prop} {s : Shared}
theorem wpAny_find {t : Array Nat} {x : ReTarget} {p : Nat} {sk : Bool} {Q : Option Sre.M → Shared → Prop} (hc : x.code = C) (ht : x.text = t) (hl : x.lim = t.size) (hg : x.groups = 0) (hp : p ≤ t.size) (hsz : t.size < 2 ^ 40)
    (h : ∀ M, Ended M (nextQ t t.size (t.size - p) p sk) → Q (match nextQ t t.size (t.size - p) p sk with | some _ => some M | none => none) s) : wpAny (model prog w) A (reNextFound x p sk) Q E s := by
  unfold reNextFound
  rw [hc, ht, hl, hg, forSearch_at hp]
  obtain ⟨k, hk, he⟩ := search_ends t t.size (t.size - p) p true sk (({} : Sre.Seen).add 14) (by omega)
  rw [Bool.true_and] at he
  have hsome : ((atA C t t.size p true sk (({} : Sre.Seen).add 14)).runFor k).outcome.isSome = true := by
    cases q : nextQ t t.size (t.size - p) p sk with
    | none => rw [q] at he; have he : _ = some _ := he; rw [he]; rfl
    | some z => rw [q] at he; rw [he.1]; rfl
  have e : (atA C t t.size p true sk (({} : Sre.Seen).add 14)).runFor (4 * (k + 1)) = (atA C t t.size p true sk (({} : Sre.Seen).add 14)).runFor k := by
    rw [show 4 * (k + 1) = k + (3 * k + 4) by omega, runFor_add, runFor_some hsome]
  have hQ := h _ he
  cases q : nextQ t t.size (t.size - p) p sk with
  | none =>
    rw [q] at he hQ
    refine wpAny_reRunToEnd (b := false) (k := k) (by omega) (by rw [e]; exact he) hQ
  | some z =>
    rw [q] at he hQ
    refine wpAny_reRunToEnd (b := true) (k := k) (by omega) (by rw [e]; exact he.1) ?_
    rw [e]
    exact hQ
theorem wpAny_whole {a c : Addr} {cls : Value} {vs items : Array Value} {nn : Nat} {x : Str} {t : Tok} {Q : ReTarget → Shared → Prop} (ha : s.heap.get? a = some { cls := cls, data := .fields vs }) (h6 : reRawNat (vs.getD 6 .none) = 0) (h2 : reRawNat (vs.getD 2 .none) = 0) (h5 : vs.getD 5 .none = .ref c)
    (hc : s.heap.get? c = some { cls := .type "tuple", data := .seq items nn })
    (hQ : Q { pattern := .ref a, string := .str x t, code := (items.map reRawOf).map Int.toNat, text := x.cps, kind := 0, groups := 0, pos := 0, lim := x.cps.size } s) : wpAny (model prog w) A (reWholeTarget (.ref a) (.str x t)) Q E s := by
  unfold reWholeTarget
  refine wpAny_bind (wpAny_fieldsOf ha rfl ?_)
  refine wpAny_bind (wpAny_reTextOf_str ?_)
  dsimp only
  rw [h6]
  refine wpAny_ite (KPc.ite_no (by decide) ?_)
  refine wpAny_ite (KPc.ite_no (by decide) ?_)
  refine wpAny_bind (wpAny_noCollection ?_)
  rw [h5, h2]
  refine wpAny_bind (wpAny_reRawItems hc ?_)
  exact wpAny_pure hQ

theorem plain_loop : plainId "re.Pattern.sub.loop" = true := by decide +kernel
theorem entry_loop : entryFor table "re.Pattern.sub.loop" = some Builtin.«re.Pattern.sub.loop» := entryFor_of_tree (by kernel_rfl)
theorem quiet_loop (a : Args) : (Code.builtin "re.Pattern.sub.loop" a).quiet = true := Code.quiet_builtin a (by decide +kernel)
def cat (ys : List Str) : List Nat := (ys.map fun y => y.cps.toList).flatten
theorem cat_app (ys zs : List Str) : cat (ys ++ zs) = cat ys ++ cat zs := by unfold cat; rw [List.map_append, List.flatten_append]
theorem join_cat : ∀ ys : List Str, (Txt.join ⟨#[]⟩ ys).cps.toList = cat ys := by
  intro ys
  show (Builtin.Str.glued ⟨#[]⟩ ys).cps.toList = _
  rw [PySem.StrLaws.glued_eq_join]
  induction ys with
  | nil => rfl
  | cons y ys ih =>
    cases ys with
    | nil => simp [cat, Str.join]
    | cons z zs =>
      show (y ++ ⟨#[]⟩ ++ Str.join ⟨#[]⟩ (z :: zs)).cps.toList = _
      rw [Str.cps_append, Str.cps_append]
      simp only [Array.toList_append]
      rw [ih]
      simp [cat]
theorem str_of_list {x : Str} {l : List Nat} (h : x.cps.toList = l) : x = ⟨l.toArray⟩ := by
  subst h
  exact (congrArg Str.mk (Array.toArray_toList ..)).symm

/-- the pattern of the top that marks the beginnings of lines -/
structure Pat (h : Heap) (a : Addr) : Prop where
  out : ∃ cls vs c items nn, h.get? a = some { cls := cls, data := .fields vs } ∧ reRawNat (vs.getD 6 .none) = 0 ∧ reRawNat (vs.getD 2 .none) = 0 ∧ vs.getD 5 .none = .ref c ∧ h.get? c = some { cls := .type "tuple", data := .seq items nn } ∧ (items.map reRawOf).map Int.toNat = C
theorem Pat.whole {a : Addr} {x : Str} {t : Tok} {Q : ReTarget → Shared → Prop} (P : Pat s.heap a) (hQ : Q { pattern := .ref a, string := .str x t, code := C, text := x.cps, kind := 0, groups := 0, pos := 0, lim := x.cps.size } s) : wpAny (model prog w) A (reWholeTarget (.ref a) (.str x t)) Q E s := by
  obtain ⟨cls, vs, c, items, nn, h1, h6, h2, h5, hc, e⟩ := P.out
  refine wpAny_whole h1 h6 h2 h5 hc ?_
  rw [e]
  exact hQ
theorem Pat.keep {h h' : Heap} {a L : Addr} {its : Array Value} {nl : Nat} (P : Pat h a) (hL : h.get? L = some { cls := .type "list", data := .seq its nl }) (k : ∀ b o, b ≠ L → h.get? b = some o → h'.get? b = some o) : Pat h' a := by
  obtain ⟨cls, vs, c, items, nn, h1, h6, h2, h5, hc, e⟩ := P.out
  refine ⟨cls, vs, c, items, nn, k _ _ ?_ h1, h6, h2, h5, k _ _ ?_ hc, e⟩
  · rintro rfl; rw [hL] at h1; cases h1
  · rintro rfl; rw [hL] at hc; simp at hc

theorem sums_app (ys : List Str) (z : Str) : ((ys ++ [z]).map (·.length)).sum = (ys.map (·.length)).sum + z.length := by simp

/-- pushing a piece -/
theorem wpAny_pushP {L : Addr} {vs : List Value} {nl : Nat} {v : Value} {Q : Unit → Shared → Prop} (hL : s.heap.get? L = some { cls := .type "list", data := .seq vs.toArray nl }) (hl : vs.length ≤ 1000000)
    (hQ : ∀ h', h'.get? L = some { cls := .type "list", data := .seq (vs ++ [v]).toArray (nl + 1) } → (∀ b o, b ≠ L → s.heap.get? b = some o → h'.get? b = some o) → Q () { s with heap := h' }) :
    wpAny (model prog w) A (updateSeq L (·.push v)) Q E s := by
  have hz : vs.toArray.size ≤ sizeLine := by rw [List.size_toArray, sizeLine_eq]; omega
  refine wpAny_updateSeq hL rfl (hQ _ ?_ fun b o nb e => ?_) hz
  · rw [Heap.get?_update_self _ hL (by rw [Obj.mapSeq_push_plain]; rfl), Obj.mapSeq_push_plain]
    simp
  · exact (Heap.SameBut.update (h := s.heap) (a := L) (f := Obj.mapSeq (·.push v))).2 b nb |>.trans e
theorem wpAny_sliceP {x : Str} {b e : Nat} {Q : Value → Shared → Prop} (hx : x.cps.size ≤ 10000) (h : ∀ tk k, Q (.str ⟨x.cps.extract b e⟩ tk) { s with toks := k }) : wpAny (model prog w) A (reSlice x.cps 0 b e) Q E s := by
  unfold reSlice
  refine wpAny_ite (KPc.ite_yes rfl ?_)
  refine wpAny_mkStr (h _ _) ?_
  show (x.cps.extract _ _).size ≤ sizeLine
  rw [Array.size_extract, sizeLine_eq]
  omega

theorem seg_len {t : Array Nat} {a b : Nat} (h : a ≤ b) (hb : b ≤ t.size) : (t.extract a b).size = b - a := by
  rw [Array.size_extract]; omega

theorem sub_loop {pa : Addr} {x : Str} {tx tp : Tok} {pad : Str} {L : Addr} {R : Result → Shared → Prop} (hx : x.cps.size ≤ 1000) (hpad : pad.length ≤ 100) : ∀ (j : Nat) (s : Shared) (st m : Nat) (n : Int) (sk : Bool) (vs : List Value) (ys : List Str) (nl : Nat),
    2 * (x.cps.size - st) + (if sk then 0 else 1) ≤ j → st ≤ x.cps.size → Pat s.heap pa → s.heap.get? L = some { cls := .type "list", data := .seq vs.toArray nl } → StrsAre vs ys →
    m ≤ st + (if sk then 1 else 0) → ys.length ≤ 2 * m → (ys.map (·.length)).sum ≤ st + m * 100 →
    (∀ h' tk t' z, (∀ b o, b ≠ L → s.heap.get? b = some o → h'.get? b = some o) → z.cps.toList = cat ys ++ outF x.cps x.cps.size pad.cps.toList (x.cps.size - st) st sk → R (.ok (.ret (.str z t'))) { s with heap := h', toks := tk }) →
    codeAny (model prog w) A (.builtin "re.Pattern.sub.loop" ⟨[.ref pa, .str x tx, .str pad tp, rawInt 0, rawInt 0, rawInt n, rawInt (st : Int), rawInt (st : Int), .bool sk, .ref L, .bool false], []⟩) R s := by
    intro j
    induction j using Nat.strongRecOn with
    | _ j ih =>
    intro s st m n sk vs ys nl hj hst P hL hi hm hy hs hR
    have hvl : vs.length = ys.length := hi.length
    have hm1 : m ≤ st + 1 := by cases sk <;> simp at hm <;> omega
    refine codeAny_builtin entry_loop ?_
    show wpAny _ _ (reWholeTarget (.ref pa) (.str x tx) >>= _) _ _ _
    refine wpAny_bind (P.whole ?_)
    show wpAny _ _ (reLiteralCannotBeTurned (.str pad tp) >>= _) _ _ _
    refine wpAny_bind ?_
    refine wpAny_bind (wpAny_of_eq (a := some pad) rfl ?_)
    refine wpAny_pure ?_
    show wpAny _ _ (reNextFound _ _ sk >>= _) _ _ _
    refine wpAny_bind (wpAny_find (t := x.cps) (p := st) rfl rfl rfl rfl hst (by omega) fun M hM => ?_)
    cases hq : nextQ x.cps x.cps.size (x.cps.size - st) st sk with
    | none =>
      have he := next_none (pad := pad.cps.toList) (x.cps.size - st) st sk (by omega) hq
      dsimp only
      refine wpAny_ite ?_
      split
      · rename_i hlt
        rw [Int.toNat_natCast] at hlt ⊢
        refine wpAny_bind (wpAny_sliceP (by omega) fun tk0 k0 => ?_)
        refine wpAny_bind (wpAny_pushP (v := .str ⟨x.cps.extract st x.cps.size⟩ tk0) hL (by omega) fun h1 hL1 hk1 => ?_)
        have hi1 : StrsAre (vs ++ [.str ⟨x.cps.extract st x.cps.size⟩ tk0]) (ys ++ [⟨x.cps.extract st x.cps.size⟩]) := hi.append' (.cons _ _ .nil)
        have hlen : (⟨x.cps.extract st x.cps.size⟩ : Str).length = x.cps.size - st := seg_len (by omega) (Nat.le_refl _)
        have hc1 : cat ys ++ outF x.cps x.cps.size pad.cps.toList (x.cps.size - st) st sk = cat (ys ++ [⟨x.cps.extract st x.cps.size⟩]) := by
          rw [he, cat_app]; simp [cat, seg]
        have hw1 : ((ys ++ [(⟨x.cps.extract st x.cps.size⟩ : Str)]).map (·.length)).sum + (ys ++ [(⟨x.cps.extract st x.cps.size⟩ : Str)]).length ≤ 1048576 := by
          rw [sums_app, hlen, List.length_append]; simp; omega
        refine wpAny_bind (wpAny_sliceP (by omega) fun tk k => ?_)
        refine wpAny_bind (wpAny_seqItems hL1 rfl ?_)
        refine wpAny_ite ?_
        split
        · rename_i hemp
          have hv0 : (vs ++ [.str ⟨x.cps.extract st x.cps.size⟩ tk0]) = [] := by simpa using hemp
          have hy0 : (ys ++ [(⟨x.cps.extract st x.cps.size⟩ : Str)]) = [] := by
            have hh := hi1.length
            rw [hv0] at hh
            exact List.length_eq_zero_iff.mp hh.symm
          refine wpAny_bind (wpAny_pure (wpAny_ite (KPc.ite_no Bool.false_ne_true ?_)))
          refine wpAny_pure ?_
          refine hR h1 _ tk ⟨x.cps.extract 0 0⟩ hk1 ?_
          rw [hc1, hy0]
          simp [cat]
        · have hsep : (⟨x.cps.extract 0 0⟩ : Str) = ⟨#[]⟩ := by simp
          rw [hsep]
          refine wpAny_bind (join_listW (items := (vs ++ [Value.str ⟨x.cps.extract st x.cps.size⟩ tk0]).toArray) ⟨_, hL1, rfl, _, rfl⟩ (by simpa using hi1) (by show 0 ≤ 16; omega) hw1 fun t' k' => ?_)
          refine wpAny_ite (KPc.ite_no Bool.false_ne_true ?_)
          refine wpAny_pure ?_
          refine hR h1 _ t' _ hk1 ?_
          rw [hc1, join_cat]
      · rename_i hlt
        rw [Int.toNat_natCast] at hlt
        have hst' : st = x.cps.size := by omega
        have hc1 : cat ys ++ outF x.cps x.cps.size pad.cps.toList (x.cps.size - st) st sk = cat ys := by
          rw [he, hst', seg_self]; simp
        have hw1 : (ys.map (·.length)).sum + ys.length ≤ 1048576 := by omega
        refine wpAny_bind (wpAny_sliceP (by omega) fun tk k => ?_)
        refine wpAny_bind (wpAny_seqItems hL rfl ?_)
        refine wpAny_ite ?_
        split
        · rename_i hemp
          have hv0 : vs = [] := by simpa using hemp
          have hy0 : ys = [] := by
            have hh := hi.length
            rw [hv0] at hh
            exact List.length_eq_zero_iff.mp hh.symm
          refine wpAny_bind (wpAny_pure (wpAny_ite (KPc.ite_no Bool.false_ne_true ?_)))
          refine wpAny_pure ?_
          refine hR s.heap _ tk ⟨x.cps.extract 0 0⟩ (fun _ _ _ e => e) ?_
          rw [hc1, hy0]
          simp [cat]
        · have hsep : (⟨x.cps.extract 0 0⟩ : Str) = ⟨#[]⟩ := by simp
          rw [hsep]
          refine wpAny_bind (join_listW (items := vs.toArray) ⟨_, hL, rfl, _, rfl⟩ (by simpa using hi) (by show 0 ≤ 16; omega) hw1 fun t' k' => ?_)
          refine wpAny_ite (KPc.ite_no Bool.false_ne_true ?_)
          refine wpAny_pure ?_
          refine hR s.heap _ t' _ (fun _ _ _ e => e) ?_
          rw [hc1, join_cat]
    | some q =>
      rw [hq] at hM
      obtain ⟨hq1, hq2, hq3, hq4⟩ := next_some (pad := pad.cps.toList) (x.cps.size - st) st q sk (by omega) hq
      dsimp only
      obtain ⟨_, hM1, hM2⟩ := hM
      have hdec : 2 * (x.cps.size - q) + 0 < 2 * (x.cps.size - st) + (if sk then 0 else 1) := by
        cases sk with
        | true => have : q ≠ st := fun e => by have := hq3 e; cases this
                  simp; omega
        | false => simp; omega
      have hmq : m + 1 ≤ q + 1 := by
        cases sk with
        | true => have : q ≠ st := fun e => by have := hq3 e; cases this
                  simp at hm; omega
        | false => simp at hm; omega
      have hjj : j - 1 < j := by omega
      have again : ∀ (h1 : Heap) (tk : Nat) (n1 : Int) (vs1 : List Value) (ys1 : List Str) (nl1 : Nat), (∀ b o, b ≠ L → s.heap.get? b = some o → h1.get? b = some o) → h1.get? L = some { cls := .type "list", data := .seq vs1.toArray nl1 } → StrsAre vs1 ys1 → ys1.length ≤ 2 * (m + 1) → (ys1.map (·.length)).sum ≤ q + (m + 1) * 100 → cat ys1 = cat ys ++ seg x.cps st q ++ pad.cps.toList →
          (Code.builtin "re.Pattern.sub.loop" ⟨[.ref pa, .str x tx, .str pad tp, rawInt 0, rawInt 0, rawInt n1, rawInt (M.handed : Int), rawInt (M.handed : Int), .bool (M.handed == M.start), .ref L, .bool false], []⟩).quiet = true ∧
          codeAny (model prog w) A (.builtin "re.Pattern.sub.loop" ⟨[.ref pa, .str x tx, .str pad tp, rawInt 0, rawInt 0, rawInt n1, rawInt (M.handed : Int), rawInt (M.handed : Int), .bool (M.handed == M.start), .ref L, .bool false], []⟩) R { s with heap := h1, toks := tk } := fun h1 tk n1 vs1 ys1 nl1 hk hL1 hi1 hy1 hs1 hc1 => by
        refine ⟨quiet_loop _, ?_⟩
        rw [hM1, hM2]
        have hb : (q == q) = true := by simp
        rw [hb]
        refine ih (j - 1) hjj _ q (m + 1) n1 true vs1 ys1 nl1 (by simp; omega) (by omega) (P.keep hL hk) hL1 hi1 (by simp; omega) hy1 hs1 fun h' tk' t' z hk' hz => ?_
        refine hR h' tk' t' z (fun b o nb e => hk' b o nb (hk b o nb e)) ?_
        rw [hz, hc1, hq4]
        simp only [List.append_assoc]
      refine wpAny_ite ?_
      split
      · rename_i hlt
        rw [Int.toNat_natCast, hM1] at hlt
        rw [Int.toNat_natCast]
        refine wpAny_bind (wpAny_sliceP (by omega) fun tk0 k0 => ?_)
        rw [hM1]
        refine wpAny_bind (wpAny_pushP (v := .str ⟨x.cps.extract st q⟩ tk0) hL (by omega) fun h1 hL1 hk1 => ?_)
        have hlen : (⟨x.cps.extract st q⟩ : Str).length = q - st := seg_len (by omega) (by omega)
        refine wpAny_ite (KPc.ite_yes rfl ?_)
        refine wpAny_bind (wpAny_pure ?_)
        refine wpAny_ite (KPc.ite_yes rfl ?_)
        refine wpAny_bind (wpAny_pushP (v := .str pad tp) hL1 (by rw [List.length_append]; simp; omega) fun h2 hL2 hk2 => ?_)
        refine wpAny_pure ?_
        rw [← hM1]
        refine again h2 _ _ _ (ys ++ [⟨x.cps.extract st q⟩] ++ [pad]) _ (fun b o nb e => hk2 b o nb (hk1 b o nb e)) hL2 ((hi.append' (.cons _ _ .nil)).append' (.cons _ _ .nil)) (by simp; omega) ?_ ?_
        · rw [sums_app, sums_app, hlen]; omega
        · rw [cat_app, cat_app]; simp [cat, seg]
      · rename_i hlt
        rw [Int.toNat_natCast, hM1] at hlt
        have hqs : q = st := by omega
        refine wpAny_ite (KPc.ite_yes rfl ?_)
        refine wpAny_bind (wpAny_pure ?_)
        refine wpAny_ite (KPc.ite_yes rfl ?_)
        refine wpAny_bind (wpAny_pushP (v := .str pad tp) hL (by omega) fun h2 hL2 hk2 => ?_)
        refine wpAny_pure ?_
        refine again h2 _ _ _ (ys ++ [pad]) _ hk2 hL2 (hi.append' (.cons _ _ .nil)) (by simp; omega) ?_ ?_
        · rw [sums_app]; omega
        · rw [cat_app, hqs, seg_self]; simp [cat]

def subF (pad x : Str) : Str := ⟨(outF x.cps x.cps.size pad.cps.toList x.cps.size 0 false).toArray⟩
theorem noCall_str : typeLookup (.type "str") "__call__" = pure none := by rw [typeLookup_type, builtinLookup_eq_fast]; kernel_rfl
theorem reNamed_sub (a b : Value) : reNamed "re.Pattern.sub" "sub" ["repl", "string", "count"] 2 [a, b] [] = pure [some a, some b, none] := by rfl
theorem wpAny_sub {pa : Addr} {x pad : Str} {tx tp : Tok} {Q : Value → Shared → Prop} (hT : s.TypeIs (.ref pa) "re.Pattern") (P : Pat s.heap pa) (hx : x.cps.size ≤ 1000) (hpad : pad.length ≤ 100) (h92 : pad.cps.contains 92 = false)
    (hQ : ∀ h' tk t', (∀ b o, s.heap.get? b = some o → h'.get? b = some o) → Q (.str (subF pad x) t') { s with heap := h', toks := tk }) :
    wpAny (model prog w) A (call (.builtin "re.Pattern.sub") [.ref pa, .str pad tp, .str x tx]) Q E s := by
  refine wpAny_call (codeAny_call_builtin slot_sub.plain entry_sub (slot_sub.check _ _ _ _ _ _ _ _ hT (args_sub _ _ _) ?_))
  unfold Builtin.«re.Pattern.sub» reSubstitute
  refine wpAny_bind (wpAny_of_eq (reNamed_sub (.str pad tp) (.str x tx)) ?_)
  refine wpAny_bind (wpAny_pure ?_)
  refine wpAny_bind (wpAny_specialOf (typeIs_str _ _ _) noCall_str ?_)
  refine wpAny_ite (KPc.ite_no Bool.false_ne_true ?_)
  refine wpAny_bind (wpAny_of_eq (a := some pad) rfl ?_)
  refine wpAny_bind (wpAny_pure ?_)
  rw [h92]
  refine wpAny_ite (KPc.ite_no Bool.false_ne_true ?_)
  refine wpAny_ite (KPc.ite_yes rfl ?_)
  refine wpAny_bind (wpAny_pure ?_)
  dsimp only
  refine wpAny_bind (wpAny_holding (P.whole ?_))
  refine wpAny_ite (KPc.ite_no (by decide) ?_)
  refine wpAny_bind (wpAny_newList ?_ (by show 0 ≤ sizeLine; exact Nat.zero_le _))
  refine wpAny_pure ⟨quiet_loop _, ?_⟩
  have up : ∀ b o, s.heap.get? b = some o → (s.heap.push { cls := .type "list", data := .seq ([] : List Value).toArray }).get? b = some o := fun b o e => Heap.get?_push_of_some _ e
  refine sub_loop hx hpad (2 * x.cps.size + 1) _ 0 0 0 false [] [] 0 (by simp) (Nat.zero_le _) ?_ (Heap.get?_push_size _ rfl) .nil (Nat.zero_le _) (Nat.zero_le _) (Nat.zero_le _) fun h' tk t' z hk hz => ?_
  · obtain ⟨cls, vs, c, items, nn, h1, h6, h2, h5, hc, e⟩ := P.out
    exact ⟨cls, vs, c, items, nn, up _ _ h1, h6, h2, h5, up _ _ hc, e⟩
  · have e : z = subF pad x := by
      rw [str_of_list hz]
      unfold subF
      simp [cat]
    rw [e]
    exact hQ h' tk t' fun b o eb => hk b o (Nat.ne_of_lt (Heap.lt_size eb)) (up b o eb)
variable {K : Frag} {n : Nat} {env : Env} {σ : Sg}
theorem OpV.sub {pa c : Addr} {vs items : Array Value} {nn : Nat} {x pad : Str} (hp : K.lookup pa = some { cls := .type "re.Pattern", data := .fields vs }) (h6 : reRawNat (vs.getD 6 .none) = 0) (h2 : reRawNat (vs.getD 2 .none) = 0) (h5 : vs.getD 5 .none = .ref c)
    (hc : K.lookup c = some { cls := .type "tuple", data := .seq items nn }) (hcode : (items.map reRawOf).map Int.toNat = C) (hx : x.cps.size ≤ 1000) (hpad : pad.length ≤ 100) (h92 : pad.cps.contains 92 = false) :
    OpV prog w K n env σ (fun vs => PySem.call (.builtin "re.Pattern.sub") vs) [.adr pa, .str pad, .str x] (.str (subF pad x)) := fun A s g E us P I => by
  cases I with
  | cons i r =>
  cases r with
  | cons j r =>
  cases r with
  | cons k r =>
  cases r
  cases i
  cases j
  cases k
  have e1 := P.gd.in P.sub _ _ hp
  have e2 := P.gd.in P.sub _ _ hc
  refine wpAny_sub ⟨_, e1, rfl⟩ ⟨⟨_, _, _, _, _, e1, h6, h2, h5, e2, hcode⟩⟩ hx hpad h92 fun h' tk t' keep => ⟨KL.of_keep keep, .str _ _⟩
end
end Mine
end

section
open PySem PySem.W PyProof.Rows PySem.Calls PySem.SeqAt
set_option Elab.async false
set_option linter.unusedVariables false
namespace Mine
section
variable {prog : Program} {w : World} {K : Frag} {n : Nat} {env : Env} {σ : Sg} {A : Around} {E : Value → Shared → Prop} {s : Shared}
theorem mul_IS {x : Str} {k : Int} {t u : Tok} {Q : Value → Shared → Prop} (hok : MulOk x k) (h : ∀ t' j, Q (.str (Txt.mul x k) t') { s with toks := j }) : wpAny (model prog w) A (binaryOp .Mult (.int k u) (.str x t)) Q E s := by
  refine lm_binaryOp_repeat_right (T := "str") (U := "int") (by decide) (fun s' => typeIs_int s' k u) (typeIs_str s x t) F.fills_int_mul PySem.noFill_str_mul F.slot_int_mul lm_noRepeat_int repeat_str F.slot_int_index.lookup
    (call_gives F.slot_int_mul (typeIs_int s k u) F.entry_int_mul (F.args_int_mul_2 _ _) (AutoIntG3.int___mul___int_str_0 k u x t)
      ⟨rfl, typeIs_str s x t, call_gives F.slot_str_mul (typeIs_str s x t) F.entry_str_mul (F.args_str_mul_2 _ _) (gives_str_mul x k t u hok.1 hok.2.1 hok.2.2) ?_⟩)
  simp only [Txt.mul] at h
  by_cases few : k < 1 <;> simp only [few, if_true, if_false] at h ⊢
  · exact ⟨by decide, h _ (s.toks + 1)⟩
  · exact post_val_or_made (fun hc => fits_reps (hok.2.2 few (by simpa using hc))) h
theorem Op2.mulIS {x : Str} {k : Int} (hok : MulOk x k) : Op2 prog w K n env σ (binaryOp .Mult) (.int k) (.str x) (.str (Txt.mul x k)) := fun A s g E v u P hv hu => by
  cases hv; cases hu
  exact mul_IS hok fun t' j => Post.here P (.str _ _) _
end
end Mine
end

section
open PySem PySem.W PyProof.Rows PySem.Calls PySem.SeqAt
set_option Elab.async false
set_option linter.unusedVariables false
namespace Mine
section
variable {prog : Program} {w : World} {K : Frag} {n : Nat} {s₀ : Shared} {g₀ : FH} {env : Env} {σ : Sg} {ω : Om} {rest : List Stmt} {Q : PH → Flow → Shared → Prop} {e : Expr} {d d₀ d₁ : D} {x : Str} {pos p : Pos} {op : Operator}
/-- x op= e on a local name -/
theorem Exs.augName (hm : (x, d₀) ∈ σ) (he : Ev prog w K n env σ e d) (hop : Op2 prog w K n env σ (inplaceOp op) d₀ d d₁) (h : Exs prog w K n s₀ g₀ env ((x, d₁) :: Sg.drop x σ) ω rest Q)
    (hx : env.kindOf x = some .local := by rfl) (hp : (env.scope.kind == .class || (env.scope.kind == .module && env.locals != env.globals)) = false := by rfl) (hk : env.scope.kind = .function := by rfl) (ho : freeOf x ω := by first | exact True.intro | (show (_ : Str) ≠ _; decide)) :
    Exs prog w K n s₀ g₀ env σ ω (.AugAssign (.Name x p) op e pos :: rest) Q := fun ρ A s g E r S => by
  refine wpAny_execs_cons (wpAny_AugAssign_Name ?_)
  obtain ⟨m, hns, f, _⟩ := S.loc
  obtain ⟨v, hv, i⟩ := f x d₀ hm
  rcases hv with ⟨_, h2⟩ | ⟨h1, _⟩
  · refine wpAny_loadName_local hk hx hns h2 ?_
    refine wpAny_mono (he A s g E (S.pre r)) (fun u s₁ h₁ => ?_) fun _ _ x => x
    have S1 := S.next h₁.1
    refine wpAny_mono (hop A s₁ _ E v u (S1.pre r) (i.mono (S.sub.le_grow _)) h₁.2) (fun z s₂ h₂ => ?_) fun _ _ x => x
    exact (S1.next h₂.1).store h₂.2 hx hp ho.no fun s' S' => h ρ A s' _ E r S'
  · rw [hx] at h1; cases h1
end

/-- lines of blanks and marks -/
def lineL : Option Nat → List Nat
  | none => [10]
  | some w => List.replicate w 32 ++ List.replicate 8 35 ++ [10]
def noteL (ws : List (Option Nat)) : List Nat := ws.flatMap lineL
def noteText (ws : List (Option Nat)) : Str := ⟨(noteL ws).toArray⟩
def ins (pad : List Nat) : Bool → List Nat → List Nat
  | _, [] => []
  | b, c :: r => (if b && c != 10 then pad else []) ++ c :: ins pad (c == 10) r
theorem outF_ins (pad : List Nat) : ∀ (rest pre : List Nat) (b : Bool), b = (pre.length == 0 || pre.getLast?.getD 0 == 10) → outF (pre ++ rest).toArray (pre ++ rest).length pad rest.length pre.length false = ins pad b rest
  | [], pre, b, hb => rfl
  | c :: r, pre, b, hb => by
    have h1 : (pre ++ c :: r).toArray.getD pre.length 0 = c := by simp
    have hbol : bol (pre ++ c :: r).toArray pre.length = b := by
      unfold bol
      rw [hb]
      rcases List.eq_nil_or_concat pre with rfl | ⟨l, a, rfl⟩
      · simp
      · simp
    have heol : eol (pre ++ c :: r).toArray (pre ++ c :: r).length pre.length = (c == 10) := by
      unfold eol
      rw [h1]
      have : (pre.length == (pre ++ c :: r).length) = false := by simp
      rw [this]; rfl
    have hw : wins (pre ++ c :: r).toArray (pre ++ c :: r).length pre.length false = (b && c != 10) := by
      unfold wins
      rw [hbol, heol]
      simp [bne]
    rw [List.length_cons, outF, hw, h1, ins]
    have e : pre ++ c :: r = (pre ++ [c]) ++ r := by simp
    have := outF_ins pad r (pre ++ [c]) (c == 10) (by simp)
    rw [show (pre ++ [c]).length = pre.length + 1 by simp] at this
    rw [e, this]
theorem ins_line (pad : List Nat) : ∀ (l : List Nat) (r : List Nat), (∀ c ∈ l, c ≠ 10) → ins pad false (l ++ 10 :: r) = l ++ 10 :: ins pad true r
  | [], r, _ => by simp [ins]
  | c :: l, r, h => by
    have hc : (c == 10) = false := by simpa using h c (.head _)
    rw [List.cons_append, ins, hc, ins_line pad l r fun d hd => h d (.tail _ hd)]
    rfl
theorem ins_note (k : Nat) : ∀ ws : List (Option Nat), ins (List.replicate k 32) true (noteL ws) = noteL (ws.map (Option.map (· + k)))
  | [] => rfl
  | none :: ws => by
    show ins _ true (10 :: noteL ws) = _
    rw [ins, show ((10 : Nat) == 10) = true from rfl, ins_note k ws]
    rfl
  | some w :: ws => by
    have ih := ins_note k ws
    have key : ∃ c l, List.replicate w 32 ++ List.replicate 8 35 = c :: l ∧ c ≠ 10 ∧ ∀ d ∈ l, d ≠ 10 := by
      cases w with
      | zero => exact ⟨35, List.replicate 7 35, rfl, by decide, fun d hd => by rw [List.eq_of_mem_replicate hd]; decide⟩
      | succ w =>
        refine ⟨32, List.replicate w 32 ++ List.replicate 8 35, rfl, by decide, fun d hd => ?_⟩
        rcases List.mem_append.mp hd with h | h
        · rw [List.eq_of_mem_replicate h]; decide
        · rw [List.eq_of_mem_replicate h]; decide
    obtain ⟨c, l, e, hc, hl⟩ := key
    have e1 : noteL (some w :: ws) = c :: (l ++ 10 :: noteL ws) := by
      show (List.replicate w 32 ++ List.replicate 8 35 ++ [10]) ++ noteL ws = _
      rw [e]; simp
    have hc2 : (c == 10) = false := by simpa using hc
    rw [e1, ins, hc2, ins_line _ _ _ hl, ih]
    have hcn : (true && c != 10) = true := by simp [hc]
    rw [if_pos hcn]
    show _ = (List.replicate (w + k) 32 ++ List.replicate 8 35 ++ [10]) ++ noteL (ws.map (Option.map (· + k)))
    rw [Nat.add_comm w k, ← List.replicate_append_replicate, List.append_assoc (List.replicate k 32), e]
    simp
theorem subF_note {pad : Str} {k : Nat} (hp : pad.cps.toList = List.replicate k 32) (ws : List (Option Nat)) : subF pad (noteText ws) = noteText (ws.map (Option.map (· + k))) := by
  unfold subF noteText
  have := outF_ins pad.cps.toList (noteL ws) [] true rfl
  simp only [List.nil_append, List.length_nil] at this
  show (⟨(outF (noteL ws).toArray (noteL ws).toArray.size pad.cps.toList (noteL ws).toArray.size 0 false).toArray⟩ : Str) = _
  rw [List.size_toArray, this, hp, ins_note]
theorem noteL_len {b : Nat} : ∀ ws : List (Option Nat), (∀ w, some w ∈ ws → w ≤ b) → (noteL ws).length ≤ ws.length * (b + 9)
  | [], _ => by simp [noteL]
  | o :: ws, h => by
    have ih := noteL_len ws fun w hw => h w (.tail _ hw)
    have e : (noteL (o :: ws)).length = (lineL o).length + (noteL ws).length := by
      show (lineL o ++ noteL ws).length = _
      rw [List.length_append]
    have ho : (lineL o).length ≤ b + 9 := by
      cases o with
      | none => simp [lineL]
      | some w =>
        have := h w (.head _)
        simp [lineL]; omega
    rw [e, List.length_cons, Nat.succ_mul]
    omega
end Mine
end

section
open PySem PySem.W PyProof.Rows PySem.Calls PySem.SeqAt
set_option Elab.async false
set_option linter.unusedVariables false
namespace Mine
def gl (c : Nat) : List (List Nat) → List Nat
  | [] => []
  | [x] => x
  | x :: y :: r => x ++ c :: gl c (y :: r)
theorem gl_join (c : Nat) : ∀ ps : List Str, (Str.join ⟨#[c]⟩ ps).cps.toList = gl c (ps.map fun p => p.cps.toList)
  | [] => rfl
  | [x] => rfl
  | x :: y :: r => by
    show (x ++ ⟨#[c]⟩ ++ Str.join ⟨#[c]⟩ (y :: r)).cps.toList = _
    rw [Str.cps_append, Str.cps_append, Array.toList_append, Array.toList_append, gl_join c (y :: r)]
    show _ = x.cps.toList ++ c :: gl c ((y :: r).map fun p => p.cps.toList)
    simp
theorem tw_free {c : Nat} {x r : List Nat} (h : c ∉ x) : (x ++ c :: r).takeWhile (· != c) = x := by
  induction x with
  | nil => simp
  | cons a x ih =>
    have ha : (a != c) = true := by
      have : a ≠ c := fun e => h (e ▸ .head _)
      simpa using this
    rw [List.cons_append, List.takeWhile_cons, ha, if_pos rfl, ih fun hm => h (.tail _ hm)]
theorem tw_all {c : Nat} {x : List Nat} (h : c ∉ x) : x.takeWhile (· != c) = x := by
  induction x with
  | nil => rfl
  | cons a x ih =>
    have ha : (a != c) = true := by
      have : a ≠ c := fun e => h (e ▸ .head _)
      simpa using this
    rw [List.takeWhile_cons, ha, if_pos rfl, ih fun hm => h (.tail _ hm)]
theorem gl_uniq (c : Nat) : ∀ ps qs : List (List Nat), ps ≠ [] → qs ≠ [] → (∀ p ∈ ps, c ∉ p) → (∀ q ∈ qs, c ∉ q) → gl c ps = gl c qs → ps = qs
  | [], _, h, _, _, _, _ => absurd rfl h
  | _, [], _, h, _, _, _ => absurd rfl h
  | [x], [y], _, _, _, _, e => by rw [show x = y from e]
  | [x], y :: z :: r, _, _, hp, hq, e => by
    exfalso
    have e : x = y ++ c :: gl c (z :: r) := e
    exact hp x (.head _) (by rw [e]; simp)
  | x :: z :: r, [y], _, _, hp, hq, e => by
    exfalso
    have e : x ++ c :: gl c (z :: r) = y := e
    exact hq y (.head _) (by rw [← e]; simp)
  | x :: z :: r, y :: z' :: r', _, _, hp, hq, e => by
    have e : x ++ c :: gl c (z :: r) = y ++ c :: gl c (z' :: r') := e
    have e1 : x = y := by rw [← tw_free (r := gl c (z :: r)) (hp x (.head _)), e, tw_free (hq y (.head _))]
    subst e1
    have e2 := (List.cons.inj (List.append_cancel_left e)).2
    have := gl_uniq c (z :: r) (z' :: r') (by simp) (by simp) (fun p hp' => hp p (.tail _ hp')) (fun q hq' => hq q (.tail _ hq')) e2
    rw [this]

def lineS : Option Nat → Str
  | none => ⟨#[]⟩
  | some w => ⟨(List.replicate w 32 ++ List.replicate 8 35).toArray⟩
theorem lineS_free (o : Option Nat) : 10 ∉ (lineS o).cps.toList := by
  cases o with
  | none => simp [lineS]
  | some w =>
    simp only [lineS]
    intro h
    rcases List.mem_append.mp h with q | q
    · have := List.eq_of_mem_replicate q; cases this
    · have := List.eq_of_mem_replicate q; cases this
theorem gl_note : ∀ ws : List (Option Nat), gl 10 ((ws.map lineS ++ [(⟨#[]⟩ : Str)]).map fun p : Str => p.cps.toList) = noteL ws
  | [] => rfl
  | o :: ws => by
    have ih := gl_note ws
    have : ∃ y r, ((ws.map lineS ++ [(⟨#[]⟩ : Str)]).map fun p => p.cps.toList) = y :: r := by
      cases ws with
      | nil => exact ⟨_, _, rfl⟩
      | cons a ws => exact ⟨_, _, rfl⟩
    obtain ⟨y, r, e⟩ := this
    rw [e] at ih
    rw [List.map_cons, List.cons_append, List.map_cons, e]
    show (lineS o).cps.toList ++ 10 :: gl 10 (y :: r) = lineL o ++ noteL ws
    rw [ih]
    cases o with
    | none => rfl
    | some w => simp [lineS, lineL]
theorem split_note (ws : List (Option Nat)) : Txt.split (noteText ws) (Str.ofString "\n") = ws.map lineS ++ [⟨#[]⟩] := by
  have e10 : Str.ofString "\n" = ⟨#[10]⟩ := by decide +kernel
  rw [e10]
  have hj := PySem.StrLaws.join_split (noteText ws) ⟨#[10]⟩
  have hf := PySem.StrLaws.split_free (noteText ws) 10
  have hne : Txt.split (noteText ws) ⟨#[10]⟩ ≠ [] := by
    have := PyProof.Rows.split_pos (noteText ws) ⟨#[10]⟩
    intro h; rw [h] at this; simp at this
  have h1 : gl 10 ((Txt.split (noteText ws) ⟨#[10]⟩).map fun p => p.cps.toList) = gl 10 ((ws.map lineS ++ [(⟨#[]⟩ : Str)]).map fun p : Str => p.cps.toList) := by
    rw [← gl_join, hj, gl_note]
    rfl
  have h2 := gl_uniq 10 _ _ (by simpa using hne) (by simp) (fun p hp => by
    obtain ⟨q, hq, rfl⟩ := List.mem_map.mp hp
    exact hf q hq) (fun p hp => by
    obtain ⟨q, hq, rfl⟩ := List.mem_map.mp hp
    rcases List.mem_append.mp hq with q' | q'
    · obtain ⟨o, _, rfl⟩ := List.mem_map.mp q'
      exact lineS_free o
    · rw [List.mem_singleton] at q'; subst q'; simp) h1
  have inj : ∀ a b : List Str, (a.map fun p => p.cps.toList) = (b.map fun p => p.cps.toList) → a = b := fun a b h => by
    induction a generalizing b with
    | nil => cases b with
      | nil => rfl
      | cons _ _ => cases h
    | cons x a ih => cases b with
      | nil => cases h
      | cons y b =>
        rw [List.map_cons, List.map_cons] at h
        obtain ⟨h3, h4⟩ := List.cons.inj h
        rw [ih b h4, str_of_list h3, ← str_of_list rfl]
  exact inj _ _ h2
theorem mul_sp : ∀ j : Fin 100, (Txt.mul (Str.ofString " ") (j.val : Int)).cps.toList = List.replicate j.val 32 ∧ (Txt.mul (Str.ofString " ") (j.val : Int)).length = j.val := by decide +kernel
theorem mulOk_sp {w : Nat} (h : w < 100) : MulOk (Str.ofString " ") (w : Int) := by
  unfold MulOk
  have e : (Str.ofString " ").length = 1 := by decide +kernel
  rw [e]
  refine ⟨by simp; omega, fun h1 _ => ?_, fun h1 _ => ?_⟩
  · have : (1 : Int) ≤ (2 ^ 63 - 1) / (w : Int) := Int.le_ediv_of_mul_le (by omega) (by omega)
    simpa using this
  · unfold PySem.Builtin.Str.tooLong
    simp [sizeLine_eq]
    omega
theorem line_made {w : Nat} (h : w < 100) : Txt.mul (Str.ofString " ") (w : Int) ++ Str.ofString "########" = lineS (some w) := by
  apply congrArg Str.mk
  show (Txt.mul (Str.ofString " ") (w : Int)).cps ++ (Str.ofString "########").cps = _
  have h1 := (mul_sp ⟨w, h⟩).1
  have h2 : (Str.ofString "########").cps = #[35, 35, 35, 35, 35, 35, 35, 35] := by decide +kernel
  apply Array.toList_inj.mp
  rw [Array.toList_append, h1, h2]
  simp
end Mine
end

section
open PySem PySem.W PyProof.Rows PySem.Calls PySem.SeqAt
set_option Elab.async false
set_option linter.unusedVariables false
namespace Mine
/-- an outer turn: `tail` makes the inner loop's iterator and runs the inner loop -/
def outerTurn (e target iter i2 : Expr) (it acc : Value) (env : Env) : Sem PySem.Fin :=
  drawn target iter it env (eval i2 env >>= fun src => standAt i2.pos >>= fun _ => foldedSetIterable i2 env src >>= fun src => holding [src] (pyIter src) >>= fun inner =>
    runOwn (.compStart e 1 inner acc env) env >>= fun _ => again (.compLoop e 0 it acc env))
theorem put_swap {ρ P : PH} {a : Addr} {p : Obj → Prop} (h : P a = none) : put (put ρ (one a p)) P = put (put ρ P) (one a p) := by
  funext b
  by_cases hb : b = a
  · subst hb
    rw [put_no h, put_of one_self, put_of one_self]
  · rw [put_no (P := one a p) (one_ne hb)]
    cases q : P b with
    | none => rw [put_no q, put_no (one_ne hb), put_no q]
    | some p' => rw [put_of q, put_of q]
section
variable {prog : Program} {w : World} {K : Frag} {s₀ s s' : Shared} {g₀ g g' g₁ : FH} {ρ : PH} {P : Nat → PH} {cs : List (Str × Addr)} {csf : Shared → List (Str × Addr)} {env : Env} {σ σ' : Sg} {ω ω' : Om} {n : Nat} {A : Around} {x y : Str} {d : D} {ds es₀ : List D} {v it : Value} {e iter target elt i2 t2 : Expr} {es ifs : List Expr} {ss rest body : List Stmt} {Q : PH → Flow → Shared → Prop} {pos p p1 p2 pos' pos'' : Pos}

/-- a clause's loop from its start, at any depth: it is all one whether the iterator is asked for itself once more or not -/
theorem clause_start {R : Result → Shared → Prop} {gens : List Comprehension} {scope : Scope} {depth : Nat} {c : Comprehension} {acc : Value} (hc : gens[depth]? = some c) (ha : (c.is_async != 0) = false)
    (once : codeAny (model prog w) A (.compLoop (.ListComp elt gens scope pos) depth it acc env) R s)
    (twice : wpAny (model prog w) A (pyIter it) (fun v s' => codeAny (model prog w) A (.compLoop (.ListComp elt gens scope pos) depth v acc env) R s') (notedBy (model prog w) A env fun x s' => R (.error x) s') s) :
    codeAny (model prog w) A (.compStart (.ListComp elt gens scope pos) depth it acc env) R s := by
  generalize hn : Expr.ListComp elt gens scope pos = node at once twice ⊢
  have hcl : (clausesOf node)[depth]? = some c := by rw [← hn]; exact hc
  have den : (model prog w).den (.compStart node depth it acc env) = (compStart node depth it acc env).onRaise (fun x => noteFrame x env >>= fun _ => standAt theWindowsPlace) := by rw [← hn]; rfl
  have key : wpAny (model prog w) A (compStart node depth it acc env) (fun fin s' => ∃ v, fin = .again (.compLoop node depth v acc env) ∧ codeAny (model prog w) A (.compLoop node depth v acc env) R s') (notedBy (model prog w) A env fun x s' => R (.error x) s') s := by
    have leave : ∀ v s', codeAny (model prog w) A (.compLoop node depth v acc env) R s' → wpAny (model prog w) A (again (.compLoop node depth v acc env)) (fun fin s' => ∃ v, fin = .again (.compLoop node depth v acc env) ∧ codeAny (model prog w) A (.compLoop node depth v acc env) R s') (notedBy (model prog w) A env fun x s' => R (.error x) s') s' :=
      fun v s' q => wpAny_pure ⟨v, rfl, q⟩
    simp only [compStart, hcl, ha, Option.elim_some, Bool.false_eq_true, if_false]
    refine wpAny_bind (wpAny_askSetting (wpAny_ite ?_))
    split
    · exact leave it s once
    · refine wpAny_bind (wpAny_rule ?_)
      refine wpAny_bind (wpAny_standAt ?_)
      refine wpAny_bind (wpAny_mono twice leave fun _ _ x => x)
  have quiet : ∀ v, (Code.compLoop node depth v acc env).quiet = true := by rw [← hn]; intro v; rfl
  have under : A.under (.compStart node depth it acc env) = A := by rw [← hn]; rfl
  refine codeAny_of_tree ?_
  rw [den, under]
  refine wpAny_notedAt (wpAny_mono key ?_ fun _ _ x => x)
  rintro _ s' ⟨v, rfl, q⟩
  exact ⟨quiet v, q⟩

theorem comp_loop2 {scope : Scope} {D : Addr} {vs₀ : List Value} {R : Result → Shared → Prop} (ds2 : Mine.D → List Mine.D) (f : Mine.D → Mine.D → Mine.D) (bd bd2 : Mine.D → Sg → Sg)
    (hturn : ∀ it acc env, compTurn (.ListComp elt [⟨target, iter, [], 0⟩, ⟨t2, i2, [], 0⟩] scope pos) 0 it acc env = outerTurn (.ListComp elt [⟨target, iter, [], 0⟩, ⟨t2, i2, [], 0⟩] scope pos) target iter i2 it acc env)
    (hturn2 : ∀ it acc env, compTurn (.ListComp elt [⟨target, iter, [], 0⟩, ⟨t2, i2, [], 0⟩] scope pos) 1 it acc env = leafTurn (.ListComp elt [⟨target, iter, [], 0⟩, ⟨t2, i2, [], 0⟩] scope pos) 1 t2 i2 [] elt it acc env)
    (W : Walk prog w target it P ds g₁) (l : Le g₁ g) (r : Rm n A) (S : St K s₀ g₀ (put (put ρ (one D (isL vs₀))) (P 0)) (csf s₀) env σ none s g) (hi : Iss g vs₀ es₀) (hPD : P 0 D = none) (hρD : ρ D = none) (dis : ∀ a p, P 0 a = some p → put ρ (one D (isL vs₀)) a = none)
    (hsz : es₀.length + (ds.flatMap ds2).length ≤ sizeLine)
    (hA : ∀ d, d ∈ ds → Asg prog w K csf env target d (bd d) none)
    (hI : ∀ d, d ∈ ds → Itb prog w K n env (bd d σ) t2 i2 (ds2 d))
    (hA2 : ∀ d, d ∈ ds → ∀ d2, d2 ∈ ds2 d → Asg prog w K csf env t2 d2 (bd2 d2) none)
    (hE : ∀ d, d ∈ ds → ∀ d2, d2 ∈ ds2 d → Ev prog w K n env (bd2 d2 (bd d σ)) elt (f d d2))
    (hb : ∀ d, d ∈ ds → ∀ p ∈ σ, p ∈ bd d σ)
    (hb2 : ∀ d, d ∈ ds → ∀ d2, d2 ∈ ds2 d → ∀ p ∈ bd d σ, p ∈ bd2 d2 (bd d σ))
    (hfold : ∀ x, foldedSetIterable i2 env x = pure x)
    (hR : ∀ s' g' vs, Le g g' → St K s₀ g₀ (put ρ (one D (isL vs))) (csf s₀) env σ none s' g' → Iss g' vs (es₀ ++ ds.flatMap fun d => (ds2 d).map (f d)) → R (.ok .next) s') :
    codeAny (model prog w) A (.compLoop (.ListComp elt [⟨target, iter, [], 0⟩, ⟨t2, i2, [], 0⟩] scope pos) 0 it (.ref D) env) R s := by
  have putD : ∀ vs a, put ρ (one D (isL vs)) a = none ↔ put ρ (one D (isL vs₀)) a = none := fun vs a => by
    by_cases h : a = D
    · subst h; rw [put_of one_self, put_of one_self]; simp
    · rw [put_no (one_ne h), put_no (one_ne h)]
  refine codeAny_loop rfl (fun k s' => ∃ i g' vs, i ≤ ds.length ∧ k = ds.length + 1 - i ∧ Le g g' ∧ St K s₀ g₀ (put (put ρ (one D (isL vs))) (P i)) (csf s₀) env σ none s' g' ∧ Iss g' vs (es₀ ++ (ds.take i).flatMap fun d => (ds2 d).map (f d))) ?_ (ds.length + 1) ⟨0, g, vs₀, Nat.zero_le _, rfl, Le.refl _, S, by simpa using hi⟩
  rintro k s' ⟨i, g', vs, hi', rfl, l', S2, is⟩
  show wpAny _ A ((compTurn _ 0 it (.ref D) env).onRaise (fun x => do noteFrame x env; theTreesLotGoes x)) _ _ s'
  refine wpAny_noted ?_
  rw [hturn]
  unfold outerTurn drawn
  refine wpAny_bind (wpAny_standAt (wpAny_bind ?_))
  by_cases hlt : i < ds.length
  · have hd : ds[i]? = some ds[i] := List.getElem?_eq_getElem hlt
    have hm : ds[i] ∈ ds := List.getElem_mem hlt
    generalize ds[i] = d at hd hm
    refine S2.draw (csf := csf) W (l.trans l') r.hh hd (hA d hm) fun v s₃ h₃ => ?_
    refine wpAny_bind (wpAny_mono h₃ (fun _ s₄ h₄ => wpAny_bind (wpAny_mono h₄ (fun _ s₅ h₅ => ?_) fun _ _ x => x)) fun _ _ x => x)
    obtain ⟨g5, l5, S5⟩ := h₅
    refine wpAny_bind (wpAny_mono (hI d hm A s₅ g5 _ (S5.pre r)) (fun x s₆ h₆ => ?_) fun _ _ x => x)
    refine wpAny_bind (wpAny_standAt (wpAny_bind (wpAny_of_eq (hfold x) (wpAny_bind (wpAny_holding (wpAny_mono h₆ (fun it2 s₇ h₇ => ?_) fun _ _ x => x))))))
    obtain ⟨sm, P2, k2, kk, W2, hP2, fr2⟩ := h₇
    obtain ⟨S7, dis2⟩ := S5.begin (E := fun _ _ => True) k2 kk hP2 fr2
    have hPD' : P (i + 1) D = none := (W.dom0 (i + 1) D).1 hPD
    have hρ7 : put (put ρ (one D (isL vs))) (P (i + 1)) = put (put ρ (P (i + 1))) (one D (isL vs)) := put_swap hPD'
    rw [hρ7] at S7 dis2
    have hP2D : P2 0 D = none := by
      cases q : P2 0 D with
      | none => rfl
      | some p' => have := dis2 D p' q; rw [put_of one_self] at this; cases this
    have l57 := S5.sub.le_grow sm.heap
    refine wpAny_bind (wpAny_runOwn (h := none) ?_)
    have fin : ∀ s' g'' vs', Le (grow g5 s₅.heap sm.heap) g'' → St K s₀ g₀ (put (put ρ (P (i + 1))) (one D (isL vs'))) (csf s₀) env (bd d σ) none s' g'' → Iss g'' vs' ((es₀ ++ (ds.take i).flatMap fun d => (ds2 d).map (f d)) ++ ((ds2 d).filter fun _ => true).map (f d)) →
        wpAny (model prog w) A (again (.compLoop (.ListComp elt [⟨target, iter, [], 0⟩, ⟨t2, i2, [], 0⟩] scope pos) 0 it (.ref D) env)) (fun fin s' => match fin with
          | .done f => R (.ok f) s'
          | .again c' => c' = .compLoop (.ListComp elt [⟨target, iter, [], 0⟩, ⟨t2, i2, [], 0⟩] scope pos) 0 it (.ref D) env ∧ ∃ m, m < ds.length + 1 - i ∧ ∃ i g' vs, i ≤ ds.length ∧ m = ds.length + 1 - i ∧ Le g g' ∧ St K s₀ g₀ (put (put ρ (one D (isL vs))) (P i)) (csf s₀) env σ none s' g' ∧ Iss g' vs (es₀ ++ (ds.take i).flatMap fun d => (ds2 d).map (f d))) (notedBy (model prog w) A env fun e s' => R (.error e) s') s' := fun s' g'' vs' l'' S'' is'' => by
      refine wpAny_pure ⟨rfl, ds.length + 1 - (i + 1), by omega, i + 1, g'', vs', hlt, rfl, l'.trans (l5.trans (l57.trans l'')), ?_, ?_⟩
      · rw [put_swap hPD']; exact S''.weaken (hb d hm)
      · rw [List.take_add_one, hd, List.flatMap_append]
        rw [List.filter_eq_self.mpr (fun _ _ => rfl), List.append_assoc] at is''
        simpa using is''
    have run := comp_loop (csf := csf) (depth := 1) (target := t2) (iter := i2) (ifs := []) (R := fun r s' => match r with
        | .ok _ => wpAny (model prog w) A (again (.compLoop (.ListComp elt [⟨target, iter, [], 0⟩, ⟨t2, i2, [], 0⟩] scope pos) 0 it (.ref D) env)) (fun fin s' => match fin with
          | .done f => R (.ok f) s'
          | .again c' => c' = .compLoop (.ListComp elt [⟨target, iter, [], 0⟩, ⟨t2, i2, [], 0⟩] scope pos) 0 it (.ref D) env ∧ ∃ m, m < ds.length + 1 - i ∧ ∃ i g' vs, i ≤ ds.length ∧ m = ds.length + 1 - i ∧ Le g g' ∧ St K s₀ g₀ (put (put ρ (one D (isL vs))) (P i)) (csf s₀) env σ none s' g' ∧ Iss g' vs (es₀ ++ (ds.take i).flatMap fun d => (ds2 d).map (f d))) (notedBy (model prog w) A env fun e s' => R (.error e) s') s'
        | .error e => cameBackBy (model prog w) A env (notedBy (model prog w) A env fun e s' => R (.error e) s') e s') (fun _ => true) (f d) bd2 hturn2 W2 (Le.refl _) r S7 (is.mono (l5.trans l57)) hP2D (by rw [put_no hPD']; exact hρD) dis2 (by
          rw [List.length_append]
          have h1 : ((ds.take i).flatMap fun d => (ds2 d).map (f d)).length + (ds2 d).length ≤ (ds.flatMap ds2).length := by
            have e1 : ((ds.take (i + 1)).flatMap ds2).length ≤ (ds.flatMap ds2).length := by
              have hpre : ds.take (i + 1) <+: ds := List.take_prefix _ _
              obtain ⟨t, ht⟩ := hpre
              rw [← ht, List.flatMap_append, List.length_append, ht]
              exact Nat.le_add_right _ _
            have e2 : ((ds.take (i + 1)).flatMap ds2).length = ((ds.take i).flatMap fun d => (ds2 d).map (f d)).length + (ds2 d).length := by
              rw [List.take_add_one, hd, List.flatMap_append, List.length_append]
              congr 1
              · rw [List.length_flatMap, List.length_flatMap]; simp
              · simp
            omega
          omega) (hA2 d hm) (fun d2 _ => Tes.nil) (fun d2 hd2 _ => hE d hm d2 hd2) (hb2 d hm) fin
    exact clause_start rfl rfl run (W2.self A _ _ 0 _ hP2 run)
  · have hin : i = ds.length := by omega
    subst hin
    refine S2.drawn W (l.trans l') r.hh (fun a p e => (putD vs a).2 (dis a p e)) fun s₃ g3 l3 S3 => wpAny_pure ?_
    refine hR s₃ g3 vs (l'.trans l3) S3 ?_
    rw [List.take_length] at is
    exact is.mono l3

theorem Ev.comp2 {scope : Scope} {cl : List (Str × Addr)} (ds2 : D → List D) (f : D → D → D) (bd bd2 : D → Sg → Sg) (hIt : Itb prog w K n env σ target iter ds) (hclos : closureFor scope env = pure cl)
    (hcap : Caps env scope cl σ σ') (hsz : (ds.flatMap ds2).length ≤ sizeLine)
    (hA : ∀ C, ∀ d ∈ ds, Asg prog w K (fun _ => cellsFrom (C + 1) scope.names []) (cenvOf scope cl C env) target d (bd d) Option.none)
    (hI : ∀ C, ∀ d ∈ ds, Itb prog w K n (cenvOf scope cl C env) (bd d σ') t2 i2 (ds2 d))
    (hA2 : ∀ C, ∀ d ∈ ds, ∀ d2 ∈ ds2 d, Asg prog w K (fun _ => cellsFrom (C + 1) scope.names []) (cenvOf scope cl C env) t2 d2 (bd2 d2) Option.none)
    (hE : ∀ C, ∀ d ∈ ds, ∀ d2 ∈ ds2 d, Ev prog w K n (cenvOf scope cl C env) (bd2 d2 (bd d σ')) elt (f d d2))
    (hb : ∀ d ∈ ds, ∀ p ∈ σ', p ∈ bd d σ')
    (hb2 : ∀ d ∈ ds, ∀ d2 ∈ ds2 d, ∀ p ∈ bd d σ', p ∈ bd2 d2 (bd d σ'))
    (hfold : ∀ C x, foldedSetIterable i2 (cenvOf scope cl C env) x = pure x := by intro _ _; rfl)
    (hturn : ∀ it acc env, compTurn (.ListComp elt [⟨target, iter, [], 0⟩, ⟨t2, i2, [], 0⟩] scope pos) 0 it acc env = outerTurn (.ListComp elt [⟨target, iter, [], 0⟩, ⟨t2, i2, [], 0⟩] scope pos) target iter i2 it acc env := by intro _ _ _; rfl)
    (hturn2 : ∀ it acc env, compTurn (.ListComp elt [⟨target, iter, [], 0⟩, ⟨t2, i2, [], 0⟩] scope pos) 1 it acc env = leafTurn (.ListComp elt [⟨target, iter, [], 0⟩, ⟨t2, i2, [], 0⟩] scope pos) 1 t2 i2 [] elt it acc env := by intro _ _ _; rfl)
    (hkind : scope.kind = .function := by rfl) (hnames : ∀ x ∈ scope.names, x.2 = .local → scope.names.lookup x.1 = some .local := by decide)
    (hs : ∀ x, foldedSetIterable iter env x = pure x := by intro _; rfl) :
    Ev prog w K n env σ (.ListComp elt [⟨target, iter, [], 0⟩, ⟨t2, i2, [], 0⟩] scope pos) (.lst (ds.flatMap fun d => (ds2 d).map (f d))) := fun A s g E P0 => by
  rw [eval_ListComp]
  refine wpAny_comprehension_free (use := Option.none) rfl hs hclos hkind hnames (wpAny_mono (hIt A s g E P0) (fun x s₁ h₁ => wpAny_mono h₁ (fun it s₂ h₂ => ?_) fun _ _ x => x) fun _ _ x => x)
  obtain ⟨sm, P, k, k2, W, hP, fr⟩ := h₂
  refine comp_block (RR := fun acc C => compPost (model prog w) A E Option.none (Post env.locals s g (.lst (ds.flatMap fun d => (ds2 d).map (f d)))) acc C) (res := ds.flatMap fun d => (ds2 d).map (f d)) P0 k k2 W hP fr hcap (fun s₄ D C R' _ hPD S4 fin => ?_) ⟨_, _, _, _, rfl⟩ (fun D C s' g' M => ?_)
  · refine comp_loop2 (csf := fun _ => cellsFrom (C + 1) scope.names []) (es₀ := []) ds2 f bd bd2 hturn hturn2 W (Le.refl _) P0.rm S4 .nil hPD rfl (fun a p e => ?_) (by simpa using hsz) (hA C) (hI C) (hA2 C) (hE C) hb hb2 (hfold C) (fun s' g' vs l S is => fin s' g' vs l S (by simpa using is))
    refine (put_no (one_ne ?_)).trans rfl
    rintro rfl; rw [hPD] at e; cases e
  · obtain ⟨m, hm⟩ := M.ns
    exact ⟨m, hm, fun h' hsb => M.post P0 k hsb⟩
end
theorem Caps.two {env : Env} {scope : Scope} {σ : Sg} {y z : Str} {c c' : Addr} {dy dz : D} (h : (y, dy) ∈ σ) (hk : env.kindOf y = some .cell) (hc : env.cells.lookup y = some c) (h' : (z, dz) ∈ σ) (hk' : env.kindOf z = some .cell) (hc' : env.cells.lookup z = some c')
    (hC : ∀ C, (cenvOf scope [(y, c), (z, c')] C env).cells.lookup y = some c ∧ (cenvOf scope [(y, c), (z, c')] C env).kindOf y = some .cell) (hC' : ∀ C, (cenvOf scope [(y, c), (z, c')] C env).cells.lookup z = some c' ∧ (cenvOf scope [(y, c), (z, c')] C env).kindOf z = some .cell) : Caps env scope [(y, c), (z, c')] σ [(y, dy), (z, dz)] :=
  ⟨fun y' c'' q => by
    rcases List.mem_cons.mp q with q | q
    · cases q; exact ⟨dy, h, hk, hc⟩
    · rw [List.mem_singleton] at q; cases q; exact ⟨dz, h', hk', hc'⟩, fun y' d' q => by
    rcases List.mem_cons.mp q with q | q
    · cases q; exact ⟨h, hk, c, hc, hC⟩
    · rw [List.mem_singleton] at q; cases q; exact ⟨h', hk', c', hc', hC'⟩⟩
end Mine
end

section
open PySem PySem.W PyProof.Rows PySem.Calls PySem.SeqAt PySem.Builtin PySem.Builtin.Str
set_option Elab.async false
set_option linter.unusedVariables false
namespace Mine
set_option maxRecDepth 100000
set_option maxHeartbeats 1000000
abbrev PS := List Value × Writer × List Nat
def dig (n : Int) : Str := Str.ofString (toString n)
def pad2 (n : Int) : Str := ⟨((percentField { zero := true, width := some 2, type := 100 } true (dig n).cps.toList).getD (dig n).cps.toList).toArray⟩
theorem cps_back (y : Str) : (⟨y.cps.toList.toArray⟩ : PySem.Str) = y := congrArg PySem.Str.mk (Array.toArray_toList ..)
theorem span_loop {p : Nat → Bool} : ∀ (l acc : List Nat), (∀ c ∈ l, p c = true) → List.span.loop p l acc = (acc.reverse ++ l, [])
  | [], acc, _ => by simp [List.span.loop]
  | c :: l, acc, h => by
    rw [List.span.loop, h c (.head _)]
    show List.span.loop p l (c :: acc) = _
    rw [span_loop l (c :: acc) fun d hd => h d (.tail _ hd)]
    simp
theorem span_all {l : List Nat} (h : ∀ c ∈ l, c ≠ 37) : l.span (· != 37) = (l, []) := by
  unfold List.span
  rw [span_loop l [] fun c hc => by simpa using h c hc]
  rfl
theorem pct_ex (X : Value) (fmt : Str) (a : Addr) (hX : ∃ t, X = .str fmt t) : ∃ Fb : Bool → Nat → PS → Sem (ForInStep PS),
    (∀ (prog : Program) (w : World) (A : Around) (E : Value → Shared → Prop) (s : Shared) (items : Array Value) (Q : Fin → Shared → Prop), IsTup s.heap a items →
      (∀ sub, wpAny (model prog w) A (forIn (List.range' 0 fmt.length 1) ((items.toList, {}, fmt.cps.toList) : PS) (Fb sub)) (fun b s' => b.1 = [] ∧ wpAny (model prog w) A (b.2.1.finish "str.__mod__") Q E s') E s) →
      wpAny (model prog w) A (percentFormat X fmt (.ref a)) Q E s) ∧
    (∀ (prog : Program) (w : World) (A : Around) (E : Value → Shared → Prop) (s : Shared) sub x y t more wr T N rest (R : ForInStep PS → Shared → Prop), KPc.Good wr T N → N ≤ 10 ^ 6 → (∀ w', KPc.Good w' (T ++ y) (N + y.length) → R (.yield (more, w', rest)) s) →
      wpAny (model prog w) A (Fb sub x (.str y t :: more, wr, 37 :: 115 :: rest)) R E s) ∧
    (∀ (prog : Program) (w : World) (A : Around) (E : Value → Shared → Prop) (s : Shared) sub x n t more wr T N rest (R : ForInStep PS → Shared → Prop), KPc.Good wr T N → N ≤ 10 ^ 6 → 0 ≤ n → n < 10 ^ 10 → (∀ w' k, KPc.Good w' (T ++ dig n) (N + (dig n).length) → R (.yield (more, w', rest)) { s with toks := k }) →
      wpAny (model prog w) A (Fb sub x (.int n t :: more, wr, 37 :: 100 :: rest)) R E s) ∧
    (∀ (prog : Program) (w : World) (A : Around) (E : Value → Shared → Prop) (s : Shared) sub x n t more wr T N rest (R : ForInStep PS → Shared → Prop), KPc.Good wr T N → N ≤ 10 ^ 6 → 0 ≤ n → n < 10 ^ 10 → (∀ w' k, KPc.Good w' (T ++ pad2 n) (N + (pad2 n).length) → R (.yield (more, w', rest)) { s with toks := k }) →
      wpAny (model prog w) A (Fb sub x (.int n t :: more, wr, 37 :: 48 :: 50 :: 100 :: rest)) R E s) ∧
    (∀ (prog : Program) (w : World) (A : Around) (E : Value → Shared → Prop) (s : Shared) sub x p wr T N l (R : ForInStep PS → Shared → Prop), KPc.Good wr T N → N ≤ 10 ^ 6 → l ≠ [] → (∀ c ∈ l, c ≠ 37) → l.length ≠ fmt.length → (∀ w', KPc.Good w' (T ++ ⟨l.toArray⟩) (N + l.length) → R (.yield (p, w', [])) s) →
      wpAny (model prog w) A (Fb sub x (p, wr, l)) R E s) ∧
    (∀ (prog : Program) (w : World) (A : Around) (E : Value → Shared → Prop) (s : Shared) sub x p wr T N (R : ForInStep PS → Shared → Prop), KPc.Good wr T N → N ≤ 10 ^ 6 → R (.done (p, wr, [])) s →
      wpAny (model prog w) A (Fb sub x (p, wr, [])) R E s) := by
  apply Exists.intro
  refine ⟨?_, ?_, ?_, ?_, ?_, ?_⟩
  · intro prog w A E s items Q hI h
    obtain ⟨kptO, kptG, kptC, kptN, kptD⟩ := hI
    unfold Builtin.Str.percentFormat
    refine wpAny_bind (wpAny_isInstance (T := "tuple") ⟨kptO, kptG, kptC⟩ KPt.sub_tt ?_)
    refine wpAny_bind (KPt.asStr_ref kptG kptD ?_)
    refine wpAny_bind (KPt.fills_ref ⟨kptO, kptG, kptC⟩ ?_)
    intro sub
    kpc_if
    refine wpAny_bind (wpAny_seqItems kptG kptD ?_)
    refine wpAny_bind (wpAny_pure ?_)
    refine wpAny_bind ?_
    rw [KPc.range_list]
    refine wpAny_mono (h sub) (fun b s' hb => ?_) fun _ _ x => x
    obtain ⟨p, wr, r⟩ := b
    obtain ⟨hp, hf⟩ := hb
    have hp : p = [] := hp
    subst hp
    kpc_if
    exact hf
  · intro prog w A E s sub x y t more wr T N rest R g hN h
    refine wpAny_ite (KPc.ite_no (KPc.short_good g (by omega)) ?_)
    repeat kpc_if
    refine wpAny_bind ?_
    refine wpAny_holding ?_
    repeat kpc_if
    kpt_conv
    refine wpAny_pure ?_
    refine wpAny_pure ?_
    rw [cps_back]
    refine h _ (KPc.good_add g ?_)
    split
    · exact KPc.obj_some rfl
    · exact KPc.obj_none rfl
  · intro prog w A E s sub x n t more wr T N rest R g hN h0 h1 h
    have hl : n.natAbs.log2 < 1920 := shown (N := 2 ^ 1920) (by omega) (Int.lt_of_lt_of_le h1 (by decide)) (Int.le_refl _)
    have en : ((n.natAbs : Nat) : Int) = n := Int.natAbs_of_nonneg h0
    refine wpAny_ite (KPc.ite_no (KPc.short_good g (by omega)) ?_)
    repeat kpc_if
    refine wpAny_bind ?_
    refine wpAny_holding ?_
    repeat kpc_if
    refine wpAny_bind (wpAny_of_eq (a := n) rfl ?_)
    repeat kpc_if
    refine wpAny_bind (wpAny_mkInt ?_)
    refine wpAny_bind (call_gives F.slot_int_repr (typeIs_int _ _ _) F.entry_int_repr (F.args_int_repr_1 _) (gives_int_repr _ _ (KPt.hd2 hl)) ⟨int_text_fits (KPt.hd2 hl), ?_⟩)
    refine wpAny_bind (wpAny_of_eq (a := some _) rfl ?_)
    refine wpAny_pure ?_
    refine wpAny_pure ?_
    rw [KPc.int_text _ rfl (Or.inl rfl) rfl h0]
    rw [en]
    show R (ForInStep.yield (more, wr.add ⟨(dig n).cps.toList.toArray⟩ _, rest)) _
    rw [cps_back]
    refine h _ _ (KPc.good_add g ?_)
    split
    · exact KPc.obj_none rfl
    · exact KPc.obj_none rfl
  · intro prog w A E s sub x n t more wr T N rest R g hN h0 h1 h
    have hl : n.natAbs.log2 < 1920 := shown (N := 2 ^ 1920) (by omega) (Int.lt_of_lt_of_le h1 (by decide)) (Int.le_refl _)
    have en : ((n.natAbs : Nat) : Int) = n := Int.natAbs_of_nonneg h0
    refine wpAny_ite (KPc.ite_no (KPc.short_good g (by omega)) ?_)
    repeat kpc_if
    refine wpAny_bind ?_
    refine wpAny_holding ?_
    repeat kpc_if
    refine wpAny_bind (wpAny_of_eq (a := n) rfl ?_)
    repeat kpc_if
    refine wpAny_bind (wpAny_mkInt ?_)
    refine wpAny_bind (call_gives F.slot_int_repr (typeIs_int _ _ _) F.entry_int_repr (F.args_int_repr_1 _) (gives_int_repr _ _ (KPt.hd2 hl)) ⟨int_text_fits (KPt.hd2 hl), ?_⟩)
    refine wpAny_bind (wpAny_of_eq (a := some _) rfl ?_)
    refine wpAny_pure ?_
    rw [KPc.int_text _ rfl (Or.inl rfl) rfl h0]
    rw [en]
    have hp : pad2 n = ⟨((percentField { zero := true, width := some 2, type := 100 } true (dig n).cps.toList).getD (dig n).cps.toList).toArray⟩ := rfl
    cases hq : percentField { zero := true, width := some 2, type := 100 } true (dig n).cps.toList with
    | none =>
      rw [hq, Option.getD_none] at hp
      have hr := h (wr.add (pad2 n) none) (s.toks + 1 + 1) (KPc.good_add g (KPc.obj_none rfl))
      rw [hp] at hr
      show wpAny _ _ (match percentField { zero := true, width := some 2, type := 100 } true (dig n).cps.toList with | none => _ | some laid => _) _ _ _
      rw [hq]
      refine wpAny_pure ?_
      split <;> exact hr
    | some laid =>
      rw [hq, Option.getD_some] at hp
      have hr := h (wr.add (pad2 n) none) (s.toks + 1 + 1) (KPc.good_add g (KPc.obj_none rfl))
      rw [hp] at hr
      show wpAny _ _ (match percentField { zero := true, width := some 2, type := 100 } true (dig n).cps.toList with | none => _ | some laid => _) _ _ _
      rw [hq]
      exact wpAny_pure hr
  · intro prog w A E s sub x p wr T N l R g hN hl h37 hlen h
    refine wpAny_ite (KPc.ite_no (KPc.short_good g (by omega)) ?_)
    have he : ¬ (l.isEmpty = true) := by simpa using hl
    refine wpAny_ite (KPc.ite_no he ?_)
    have e : List.span.loop (fun x => x != 37) l [] = (l, []) := span_all h37
    refine wpAny_ite (KPc.ite_yes ?_ ?_)
    · show (!(List.span.loop (fun x => x != 37) l []).fst.isEmpty) = true
      rw [e]
      simpa using hl
    refine wpAny_pure ?_
    dsimp only
    rw [e]
    refine h _ (KPc.good_add (x := ⟨l.toArray⟩) g (KPc.obj_none (if_neg ?_)))
    simpa using hlen
  · intro prog w A E s sub x p wr T N R g hN h
    refine wpAny_ite (KPc.ite_no (KPc.short_good g (by omega)) ?_)
    kpc_if
    exact wpAny_pure h

theorem range4 (k : Nat) : List.range' 0 (4 + k) 1 = 0 :: 1 :: 2 :: 3 :: List.range' 4 k := by
  rw [Nat.add_comm]; rfl
theorem range6 (k : Nat) : List.range' 0 (6 + k) 1 = 0 :: 1 :: 2 :: 3 :: 4 :: 5 :: List.range' 6 k := by
  rw [Nat.add_comm]; rfl

section
variable {prog : Program} {w : World} {K : Frag} {n : Nat} {env : Env} {σ : Sg}
/-- '%s%d' and a tail -/
theorem meets_sd (b : Addr) (sg : Str) (t u v : Tok) (k : Int) (l : List Nat) (h0 : 0 ≤ k) (h1 : k < 10 ^ 10) (hs : sg.length ≤ 100) (hd : (dig k).length ≤ 100) (hl : l.length ≤ 100) (h37 : ∀ c ∈ l, c ≠ 37) :
    Meets (PySem.Builtin.«str.__mod__» ⟨[.str ⟨(37 :: 115 :: 37 :: 100 :: l).toArray⟩ t, .ref b], []⟩) (fun _ R s => IsTup s.heap b #[.str sg u, .int k v] ∧ ∀ t' j, R (.ok (.ret (.str (sg ++ dig k ++ ⟨l.toArray⟩) t'))) { s with toks := j }) := by
  apply KPt.meets_tup
  intro prog w A s Q E hT hQ
  rw [KPt.entry_is_r]
  obtain ⟨Fb, head, turnS, turnD, _, turnL, turnE⟩ := pct_ex (.str ⟨(37 :: 115 :: 37 :: 100 :: l).toArray⟩ t) ⟨(37 :: 115 :: 37 :: 100 :: l).toArray⟩ b ⟨t, rfl⟩
  refine head prog w A E s _ Q hT fun sub => ?_
  have el : (⟨(37 :: 115 :: 37 :: 100 :: l).toArray⟩ : Str).length = 4 + l.length := by
    show (37 :: 115 :: 37 :: 100 :: l).toArray.size = _
    rw [List.size_toArray]; simp; omega
  rw [el, range4]
  refine KPc.start (f := Fb sub) (fun w0 g0 => ?_)
  refine KPc.turn (turnS _ _ _ _ _ sub 0 sg u _ w0 _ _ _ _ g0 (by omega) fun w1 g1 => ?_)
  refine KPc.turn (turnD _ _ _ _ _ sub 1 k v _ w1 _ _ _ _ g1 (by omega) h0 h1 fun w2 tk g2 => ?_)
  rw [KPc.empty_app] at g2
  cases hll : l with
  | nil =>
    refine KPc.turn (turnE _ _ _ _ _ sub 2 _ w2 _ _ _ g2 (by omega) ⟨rfl, ?_⟩)
    refine KPc.finish_ok g2 (by omega) ?_ fun t' j => hQ t' j
    rw [hll]
    show _ = _ ++ Str.empty
    exact (congrArg Str.mk (by rw [Str.cps_append]; simp [Str.empty])).symm
  | cons c l' =>
    rw [← hll]
    refine KPc.turn (turnL _ _ _ _ _ sub 2 _ w2 _ _ l _ g2 (by omega) (by rw [hll]; simp) h37 (by rw [el]; omega) fun w3 g3 => ?_)
    refine KPc.turn (turnE _ _ _ _ _ sub 3 _ w3 _ _ _ g3 (by omega) ⟨rfl, ?_⟩)
    exact KPc.finish_ok g3 (by omega) rfl fun t' j => hQ t' j
theorem meets_s02d (b : Addr) (sg : Str) (t u v : Tok) (k : Int) (l : List Nat) (h0 : 0 ≤ k) (h1 : k < 10 ^ 10) (hs : sg.length ≤ 100) (hd : (pad2 k).length ≤ 100) (hl : l.length ≤ 100) (h37 : ∀ c ∈ l, c ≠ 37) :
    Meets (PySem.Builtin.«str.__mod__» ⟨[.str ⟨(37 :: 115 :: 37 :: 48 :: 50 :: 100 :: l).toArray⟩ t, .ref b], []⟩) (fun _ R s => IsTup s.heap b #[.str sg u, .int k v] ∧ ∀ t' j, R (.ok (.ret (.str (sg ++ pad2 k ++ ⟨l.toArray⟩) t'))) { s with toks := j }) := by
  apply KPt.meets_tup
  intro prog w A s Q E hT hQ
  rw [KPt.entry_is_r]
  obtain ⟨Fb, head, turnS, _, turnP, turnL, turnE⟩ := pct_ex (.str ⟨(37 :: 115 :: 37 :: 48 :: 50 :: 100 :: l).toArray⟩ t) ⟨(37 :: 115 :: 37 :: 48 :: 50 :: 100 :: l).toArray⟩ b ⟨t, rfl⟩
  refine head prog w A E s _ Q hT fun sub => ?_
  have el : (⟨(37 :: 115 :: 37 :: 48 :: 50 :: 100 :: l).toArray⟩ : Str).length = 6 + l.length := by
    show (37 :: 115 :: 37 :: 48 :: 50 :: 100 :: l).toArray.size = _
    rw [List.size_toArray]; simp; omega
  rw [el, range6]
  refine KPc.start (f := Fb sub) (fun w0 g0 => ?_)
  refine KPc.turn (turnS _ _ _ _ _ sub 0 sg u _ w0 _ _ _ _ g0 (by omega) fun w1 g1 => ?_)
  refine KPc.turn (turnP _ _ _ _ _ sub 1 k v _ w1 _ _ _ _ g1 (by omega) h0 h1 fun w2 tk g2 => ?_)
  rw [KPc.empty_app] at g2
  cases hll : l with
  | nil =>
    refine KPc.turn (turnE _ _ _ _ _ sub 2 _ w2 _ _ _ g2 (by omega) ⟨rfl, ?_⟩)
    refine KPc.finish_ok g2 (by omega) ?_ fun t' j => hQ t' j
    rw [hll]
    show _ = _ ++ Str.empty
    exact (congrArg Str.mk (by rw [Str.cps_append]; simp [Str.empty])).symm
  | cons c l' =>
    rw [← hll]
    refine KPc.turn (turnL _ _ _ _ _ sub 2 _ w2 _ _ l _ g2 (by omega) (by rw [hll]; simp) h37 (by rw [el]; omega) fun w3 g3 => ?_)
    refine KPc.turn (turnE _ _ _ _ _ sub 3 _ w3 _ _ _ g3 (by omega) ⟨rfl, ?_⟩)
    exact KPc.finish_ok g3 (by omega) rfl fun t' j => hQ t' j

theorem Op2.modT {X T sg : Str} {k : Int} (h : ∀ b t u v, Meets (PySem.Builtin.«str.__mod__» ⟨[.str X t, .ref b], []⟩) (fun _ R s => IsTup s.heap b #[.str sg u, .int k v] ∧ ∀ t' j, R (.ok (.ret (.str T t'))) { s with toks := j })) :
    Op2 prog w K n env σ (binaryOp .Mod) (.str X) (.tup [.str sg, .int k]) (.str T) := fun A s g E v u P hv hu => by
  obtain ⟨m, hm⟩ := P.loc.ns
  cases hv
  cases hu with
  | @tup b nn vs _ hb r =>
  cases r with
  | cons i1 r =>
  cases r with
  | cons i2 r =>
  cases r
  cases i1
  cases i2
  refine KPt.mod_tuple (allNews_news s.heap env.locals) (allNews_mem ?_ (P.sub _ _ hb)) rfl (h b _ _ _) fun t' j => Post.here P (.str _ _) _
  rintro rfl
  rw [P.nL] at hb; cases hb
end
end Mine
end

section
open PySem PySem.W PyProof.Rows PySem.Calls PySem.Builtin.Re
set_option Elab.async false
set_option linter.unusedVariables false
namespace Mine
set_option maxRecDepth 100000
set_option maxHeartbeats 4000000
def codeZ : Array Nat := #[14, 4, 0, 1, 6, 6, 0, 23, 14, 0, 1, 17, 0, 13, 6, 16, 45, 16, 43, 0, 17, 1, 18, 17, 2, 13, 4, 8, 0, 0, 24, 9, 0, 1, 13, 4, 8, 0, 0, 1, 17, 3, 24, 6, 0, 1, 16, 58, 1, 23, 17, 0, 1, 17, 4, 13, 4, 8, 0, 0, 13, 4, 8, 0, 0, 17, 5, 18, 6, 5, 1]
def cls (c : Nat) : Nat := if Sre.isDigit c then 48 else c
theorem cls_dig {c : Nat} (h : Sre.isDigit c = true) : cls c = 48 := by unfold cls; rw [if_pos h]
theorem cls_no {c : Nat} (h : ¬ Sre.isDigit c = true) : cls c = c := by unfold cls; rw [if_neg h]
theorem dig_eq {c k : Nat} (h : Sre.isDigit c = true) (hk : Sre.isDigit k = false) : (c == k) = false := by
  rw [beq_eq_false_iff_ne]
  rintro rfl
  rw [h] at hk; cases hk
theorem cls_eq (c k : Nat) (hk : Sre.isDigit k = false) : (cls c == k) = (c == k) := by
  by_cases h : Sre.isDigit c = true
  · rw [cls_dig h, dig_eq h hk, dig_eq (by decide) hk]
  · rw [cls_no h]
theorem get_cls (t : Array Nat) (p : Nat) : (t.map cls).getD p 0 = cls (t.getD p 0) := by
  rw [Array.getD_eq_getD_getElem?, Array.getD_eq_getD_getElem?, Array.getElem?_map]
  cases t[p]? <;> rfl
theorem size_codeZ : codeZ.size = 71 := by rfl
theorem set_sign (c : Nat) (seen : Sre.Seen) : Sre.inSet codeZ c 71 15 true seen = if c == 45 then .ok (true, seen.add 16) else if c == 43 then .ok (true, (seen.add 16).add 16) else .ok (false, ((seen.add 16).add 16).add 0) := by rfl
theorem set_dig : ∀ i, i = 25 ∨ i = 34 ∨ i = 55 ∨ i = 60 → ∀ (c : Nat) (seen : Sre.Seen), Sre.inSet codeZ c 71 (i + 2) true seen = if (Sre.isDigit c != false) = true then .ok (true, (seen.add 8).add 55) else .ok (false, ((seen.add 8).add 55).add 0) := by
  rintro i (rfl | rfl | rfl | rfl) <;> intro c seen <;> rfl
def opOk (i : Nat) : Bool := match Sre.ops[codeZ.getD i 0]? with
  | some .LITERAL => [45, 43, 58].contains (codeZ.getD (i + 1) 0)
  | some .IN => [13, 25, 34, 55, 60].contains i
  | some .AT => [0, 5, 6, 16].contains (codeZ.getD (i + 1) 0)
  | some .NOT_LITERAL | some .LITERAL_IGNORE | some .NOT_LITERAL_IGNORE | some .LITERAL_UNI_IGNORE | some .NOT_LITERAL_UNI_IGNORE | some .IN_IGNORE | some .IN_UNI_IGNORE
  | some .GROUPREF | some .GROUPREF_IGNORE | some .GROUPREF_UNI_IGNORE => false
  | _ => true
theorem opOk_fin : ∀ i : Fin 71, opOk i.val = true := by decide +kernel
theorem opOk_all (i : Nat) : opOk i = true := by
  by_cases h : i < 71
  · exact opOk_fin ⟨i, h⟩
  · have e : codeZ.getD i 0 = 0 := by
      rw [Array.getD_eq_getD_getElem?, Array.getElem?_eq_none (by rw [size_codeZ]; omega)]; rfl
    unfold opOk
    rw [e]; rfl
theorem accepts_cls (i c : Nat) (seen : Sre.Seen) : Sre.accepts codeZ i (cls c) seen = Sre.accepts codeZ i c seen := by
  by_cases h : Sre.isDigit c = true
  · rw [cls_dig h]
    have ok := opOk_all i
    unfold opOk at ok
    unfold Sre.accepts
    rw [size_codeZ]
    cases ho : Sre.ops[codeZ.getD i 0]? with
    | none => rfl
    | some op =>
      rw [ho] at ok
      cases op
      all_goals first | rfl | (exact absurd ok Bool.false_ne_true) | skip
      case ANY => dsimp only; rw [show (c != 10) = true by unfold bne; rw [dig_eq h rfl]; rfl]; rfl
      case LITERAL =>
        dsimp only at ok ⊢
        have : codeZ.getD (i + 1) 0 = 45 ∨ codeZ.getD (i + 1) 0 = 43 ∨ codeZ.getD (i + 1) 0 = 58 := by simpa using ok
        rcases this with e | e | e <;> rw [e, dig_eq h rfl] <;> rfl
      case IN =>
        dsimp only at ok ⊢
        have : i = 13 ∨ i = 25 ∨ i = 34 ∨ i = 55 ∨ i = 60 := by simpa using ok
        rcases this with rfl | hi
        · rw [set_sign, set_sign, dig_eq h rfl, dig_eq h rfl]; rfl
        · rw [set_dig i hi, set_dig i hi, h]; rfl
  · rw [cls_no h]
theorem run_cls (t : Array Nat) (i : Nat) : ∀ (n p f : Nat) (seen : Sre.Seen), Sre.run codeZ (t.map cls) i n p f seen = Sre.run codeZ t i n p f seen
  | 0, _, _, _ => rfl
  | n + 1, p, f, seen => by
    rw [Sre.run, Sre.run, get_cls, accepts_cls]
    congr 1
    funext ⟨yes, seen⟩
    dsimp only
    rw [run_cls t i n]
/-- two machines at the same point, the first with the text's digits turned to noughts -/
inductive Sim (t : Array Nat) : Sre.M → Sre.M → Prop
  | mk (lim start lastStart : Nat) (wholeText mustAdvance : Bool) (pc pos handed : Nat) (outermost : Bool) (marks : Array (Option Nat)) (lastmark lastindex : Int) (loops : Array Sre.Loop) (inner : Option Nat) (frames : List Sre.Frame) (weight : Nat) (answer : Option Bool) (seen : Sre.Seen) (outcome : Option Sre.Outcome) :
    Sim t ⟨codeZ, t.map cls, lim, start, lastStart, wholeText, mustAdvance, pc, pos, handed, outermost, marks, lastmark, lastindex, loops, inner, frames, weight, answer, seen, outcome⟩
      ⟨codeZ, t, lim, start, lastStart, wholeText, mustAdvance, pc, pos, handed, outermost, marks, lastmark, lastindex, loops, inner, frames, weight, answer, seen, outcome⟩
section
variable {t : Array Nat} {a b a' b' : Sre.M}
theorem Sim.ite {c : Prop} [Decidable c] (h1 : Sim t a b) (h2 : Sim t a' b') : Sim t (if c then a else a') (if c then b else b') := by
  split <;> assumption
theorem Sim.say (y : Bool) (h : Sim t a b) : Sim t (a.say y) (b.say y) := by cases h; exact .mk ..
theorem Sim.stick (y : String) (h : Sim t a b) : Sim t (a.stick y) (b.stick y) := by cases h; exact .mk ..
theorem Sim.putBack (k : Sre.Kept) (h : Sim t a b) : Sim t (a.putBack k) (b.putBack k) := by cases h; exact .mk ..
theorem Sim.setLoop (i : Nat) (f : Sre.Loop → Sre.Loop) (h : Sim t a b) : Sim t (a.setLoop i f) (b.setLoop i f) := by cases h; exact .mk ..
theorem Sim.mark (i : Nat) (h : Sim t a b) : Sim t (a.mark i) (b.mark i) := by cases h; exact .mk ..
theorem Sim.attempt (f : Sre.Frame) (x y : Nat) (o : Bool) (h : Sim t a b) : Sim t (a.attempt f x y o) (b.attempt f x y o) := by
  cases h; unfold Sre.M.attempt; exact .ite (.mk ..) (.mk ..)
theorem Sim.alternative (i : Nat) (k : Sre.Kept) (h : Sim t a b) : Sim t (a.alternative i k) (b.alternative i k) := by
  cases h; unfold Sre.M.alternative; exact .ite (.say _ (.mk ..)) (.attempt _ _ _ _ (.mk ..))
theorem Sim.afterRun (w : Sre.Wait) (c : Int) (k : Sre.Kept) (h : Sim t a b) : Sim t (a.afterRun w c k) (b.afterRun w c k) := by
  cases h; exact .attempt _ _ _ _ (.mk ..)
theorem Sim.afterLoop (w : Sre.Wait) (i : Nat) (c : Int) (f : Option Nat → Bool) (h : Sim t a b) : Sim t (a.afterLoop w i c f) (b.afterLoop w i c f) := by
  cases h; exact .attempt _ _ _ _ (.mk ..)
theorem Sim.round (w : Sre.Wait) (i : Nat) (c : Int) (g : Bool) (k : Sre.Kept) (h : Sim t a b) : Sim t (a.round w i c g k) (b.round w i c g k) := by
  cases h; exact .attempt _ _ _ _ (.mk ..)
theorem Sim.until_ (g : Bool) (h : Sim t a b) : Sim t (a.until_ g) (b.until_ g) := by
  cases h with
  | mk lim start lastStart wholeText mustAdvance pc pos handed outermost marks lastmark lastindex loops inner =>
    unfold Sre.M.until_
    cases inner with
    | none => exact .stick _ (.mk ..)
    | some i => exact .ite (.round _ _ _ _ _ (.mk ..)) (.ite (.afterLoop _ _ _ _ (.mk ..)) (.ite (.round _ _ _ _ _ (.mk ..)) (.afterLoop _ _ _ _ (.mk ..))))
theorem Sim.possessive (i : Nat) (c : Int) (g : Option Nat) (h : Sim t a b) : Sim t (a.possessive i c g) (b.possessive i c g) := by
  cases h; unfold Sre.M.possessive; exact .ite (.attempt _ _ _ _ (.mk ..)) (.ite (.attempt _ _ _ _ (.mk ..)) (.mk ..))
theorem Sim.attemptAt (s : Nat) (f : Bool) (h : Sim t a b) : Sim t (a.attemptAt s f) (b.attemptAt s f) := by
  cases h; exact .attempt _ _ _ _ (.mk ..)
theorem Sim.attemptFrom (s : Nat) (f : Bool) (h : Sim t a b) : Sim t (a.attemptFrom s f) (b.attemptFrom s f) := by
  cases h
  unfold Sre.M.attemptFrom
  rw [if_pos (by rfl), if_pos (by rfl)]
  exact .attemptAt _ _ (.mk ..)
theorem Sim.resume (f : Sre.Frame) (y : Bool) (h : Sim t a b) : Sim t (a.resume f y) (b.resume f y) := by
  cases h
  unfold Sre.M.resume
  obtain ⟨wait, _, _, _, _, _, _, _⟩ := f
  cases wait
  case nextStart => exact .ite (.say _ (.mk ..)) (.ite (.attemptFrom _ _ (.mk ..)) (.say _ (.mk ..)))
  case nextBranch => exact .ite (.say _ (.mk ..)) (.alternative _ _ (.putBack _ (.mk ..)))
  case giveBack => exact .ite (.say _ (.mk ..)) (.ite (.say _ (.mk ..)) (.afterRun _ _ _ (.mk ..)))
  case takeMore =>
    refine .ite (.say _ (.mk ..)) (.ite (.say _ (.mk ..)) (.ite (.say _ (.mk ..)) ?_))
    dsimp only
    rw [get_cls, accepts_cls]
    split
    · exact .stick _ (.mk ..)
    · exact .say _ (.mk ..)
    · exact .afterRun _ _ _ (.mk ..)
  case closeLoop => exact .say _ (.mk ..)
  case maxBelow => exact .ite (.say _ (.mk ..)) (.say _ (.mk ..))
  case maxMore => exact .ite (.say _ (.mk ..)) (.afterLoop _ _ _ _ (.mk ..))
  case maxTail => exact .say _ (.mk ..)
  case minBelow => exact .ite (.say _ (.mk ..)) (.say _ (.mk ..))
  case minTail => exact .ite (.say _ (.mk ..)) (.ite (.say _ (.mk ..)) (.round _ _ _ _ _ (.mk ..)))
  case minMore => exact .ite (.say _ (.mk ..)) (.say _ (.mk ..))
  case possBelow => exact .ite (.possessive _ _ _ (.mk ..)) (.say _ (.mk ..))
  case possMore => exact .ite (.possessive _ _ _ (.mk ..)) (.possessive _ _ _ (.mk ..))
  case atomic => exact .ite (.mk ..) (.say _ (.mk ..))
  case look => exact .ite (.mk ..) (.say _ (.mk ..))
  case lookNot => exact .ite (.say _ (.mk ..)) (.mk ..)
theorem isAt_cls (k : Nat) (hk : k = 0 ∨ k = 5 ∨ k = 6 ∨ k = 16) (h : Sim t a b) : a.isAt k = b.isAt k := by
  cases h
  unfold Sre.M.isAt
  simp only [get_cls]
  rcases hk with rfl | rfl | rfl | rfl
  · rfl
  · show Except.ok (_ || _ && _) = _; rw [cls_eq _ 10 rfl]; rfl
  · show Except.ok (_ || _) = _; rw [cls_eq _ 10 rfl]; rfl
  · rfl
theorem lit_words {t : Array Nat} (pc p : Nat) (seen : Sre.Seen) : Sre.accepts codeZ pc ((t.map cls).getD p 0) seen = Sre.accepts codeZ pc (t.getD p 0) seen := by rw [get_cls, accepts_cls]
theorem at_word {pc : Nat} (h : Sre.ops[codeZ.getD pc 0]? = some .AT) : codeZ.getD (pc + 1) 0 = 0 ∨ codeZ.getD (pc + 1) 0 = 5 ∨ codeZ.getD (pc + 1) 0 = 6 ∨ codeZ.getD (pc + 1) 0 = 16 := by
  have ok := opOk_all pc
  unfold opOk at ok
  rw [h] at ok
  simpa using ok
theorem Sim.exec (h : Sim t a b) : Sim t a.exec b.exec := by
  cases h with
  | mk lim start lastStart wholeText mustAdvance pc =>
  have ok := opOk_all pc
  unfold opOk at ok
  unfold Sre.M.exec
  simp only [Sre.M.word, Nat.add_zero]
  cases ho : Sre.ops[codeZ.getD pc 0]? with
  | none => exact .stick _ (.mk ..)
  | some op =>
    rw [ho] at ok
    cases op
    all_goals first
      | exact absurd ok Bool.false_ne_true
      | exact .mk ..
      | exact .stick _ (.mk ..)
      | exact .say _ (.mk ..)
      | exact .mark _ (.mk ..)
      | exact .alternative _ _ (.mk ..)
      | exact .attempt _ _ _ _ (.mk ..)
      | exact .until_ _ (.mk ..)
      | exact .possessive _ _ _ (.mk ..)
      | exact .ite (.say _ (.mk ..)) (.say _ (.mk ..))
      | (refine .ite (.say _ (.mk ..)) ?_
         rw [lit_words]
         split
         · exact .stick _ (.mk ..)
         · exact .say _ (.mk ..)
         · exact .mk ..)
      | exact .ite (.ite (.mk ..) (.say _ (.mk ..))) (.attempt _ _ _ _ (.mk ..))
      | skip
    case AT =>
      dsimp only
      rw [isAt_cls (t := t) (b := ⟨codeZ, t, _, _, _, _, _, _, _, _, _, _, _, _, _, _, _, _, _, _, _⟩) _ (at_word ho) (.mk ..)]
      split
      · exact .stick _ (.mk ..)
      · exact .ite (.mk ..) (.say _ (.mk ..))
    all_goals
      dsimp only
      refine .ite (.say _ (.mk ..)) ?_
      rw [run_cls]
      split
      · exact .stick _ (.mk ..)
      · refine .ite (.say _ (.mk ..)) ?_
        first
          | exact .mk ..
          | exact .afterRun _ _ _ (.mk ..)
theorem Sim.step (h : Sim t a b) : Sim t a.step b.step := by
  cases h with
  | mk lim start lastStart wholeText mustAdvance pc pos handed outermost marks lastmark lastindex loops inner frames weight answer seen outcome =>
  unfold Sre.M.step
  refine .ite (.mk ..) ?_
  cases answer with
  | none => exact .ite (.exec (.mk ..)) (.stick _ (.mk ..))
  | some y =>
    cases frames with
    | nil => exact .mk ..
    | cons f rest => exact .resume _ _ (.mk ..)
theorem Sim.over (h : Sim t a b) : a.outcome = b.outcome := by cases h; rfl
theorem Sim.runFor : ∀ (n : Nat) {a b : Sre.M}, Sim t a b → Sim t (a.runFor n) (b.runFor n)
  | 0, _, _, h => h
  | n + 1, a, b, h => by
    unfold Sre.M.runFor
    rw [h.over]
    exact .ite h (Sim.runFor n h.step)
theorem Sim.search (t : Array Nat) (groups pos lim : Nat) (must : Bool) : Sim t (Sre.forSearch codeZ (t.map cls) groups pos lim must) (Sre.forSearch codeZ t groups pos lim must) := by
  unfold Sre.forSearch
  exact .ite (.say _ (.mk ..)) (.attemptFrom _ _ (.mk ..))
end
end Mine
end

open PySem.Calls PySem.Builtin.Re
namespace Mine
local macro_rules | `(tactic| walk_at "mem") => `(tactic| first | with_reducible exact Sg.hd | ((with_reducible refine' Sg.mem_drop ?m ?n); (case n => decide); (case m => walk_at "mem")) | ((with_reducible refine' Sg.tl ?m); (case m => walk_at "mem")))
local macro_rules | `(tactic| walk_at "op") => `(tactic| first
  | with_reducible exact Op2.addI | with_reducible exact Op2.subI | with_reducible exact Op2.addF | with_reducible exact Op2.subF | with_reducible exact Op2.mulF
  | with_reducible exact Op2.ltF | with_reducible exact Op2.ltI | with_reducible exact Op2.eqI | with_reducible exact Op2.neI | with_reducible exact Op2.eqS | with_reducible exact Op2.isN | with_reducible exact Op2.isNotN
  | with_reducible exact Op1.negI | with_reducible exact Op2.inIs | with_reducible exact Op2.notinIs
  | ((with_reducible refine' Op2.modF ?h); (case h => decide +kernel))
  | ((with_reducible refine' Op2.modI ?h); (case h => decide))
  | ((with_reducible refine' Op2.fdivI ?h1 ?h2); (case h1 => decide); (case h2 => exact PyProof.noPylong_of_log2 (by decide +kernel)))
  | ((with_reducible refine' Op2.powI ?h1 ?h2); (case h1 => decide); (case h2 => decide))
  | ((with_reducible refine' Op2.mulI ?h); (case h => mul_fits)))
local macro_rules | `(tactic| walk_at "opv") => `(tactic| first
  | with_reducible exact OpV.abs | ((with_reducible refine' OpV.lenL ?h); (case h => first | assumption | omega | decide)) | with_reducible exact OpV.min2 | with_reducible exact OpV.max2 | with_reducible exact OpV.range)
local macro_rules | `(tactic| walk_at "evs") => `(tactic| first
  | with_reducible exact Evs.nil
  | (refine' Evs.cons ?a ?b; (case a => walk_at "ev"); (case b => walk_at "evs")))
local macro_rules | `(tactic| walk_at "ev") => `(tactic| first
  | with_reducible exact Ev.int | with_reducible exact Ev.str | with_reducible exact Ev.flt | with_reducible exact Ev.none | with_reducible exact Ev.bool
  | (refine' Ev.name ?a; (case a => walk_at "mem"))
  | ((with_reducible refine' Ev.bin ?a ?b ?c); (case a => walk_at "ev"); (case b => walk_at "ev"); (case c => walk_at "op"))
  | (refine' Ev.cmp ?a ?b ?c; (case a => walk_at "ev"); (case b => walk_at "ev"); (case c => walk_at "op"))
  | ((with_reducible refine' Ev.un ?a ?c); (case a => walk_at "ev"); (case c => walk_at "op"))
  | (refine' Te.cmp ?a ?b ?c; (case a => walk_at "ev"); (case b => walk_at "ev"); (case c => walk_at "op"))
  | (refine' Ev.callB ?a ?b ?c ?d; (case a => exact rfl); (case b => exact rfl); (case c => walk_at "evs"); (case d => walk_at "opv"))
  | (refine' Ev.callT ?a ?b ?c ?d; (case a => exact rfl); (case b => exact rfl); (case c => walk_at "evs"); (case d => walk_at "opv"))
  | (refine' Ev.top (v := Value.float _ _) (d := D.flt _) ?a ?b; (case a => exact rfl); (case b => (intro g G; exact Is.flt _ _))))
local macro_rules | `(tactic| walk_at "te1") => `(tactic| (refine' Te.cmp ?a ?b ?c; (case a => walk_at "ev"); (case b => walk_at "ev"); (case c => walk_at "op")))
local macro_rules | `(tactic| walk_at "assignC") => `(tactic| (refine' Exs.assignC ?a ?b; (case a => walk_at "ev")))
local macro_rules | `(tactic| walk_at "comp") => `(tactic| (
  (case hclos => exact rfl)
  (try (case hsz => (rw [upto_length]; decide)))
  (case hA => (intro C d hd; exact Asg.name))))
local macro_rules | `(tactic| walk_at "te") => `(tactic| (refine' Te.eq ?a ?b; (case a => walk_at "ev"); (case b => first | assumption | rfl | decide)))
local macro_rules | `(tactic| walk_at "ifNot") => `(tactic| (refine' Exs.ifNot ?a ?b; (case a => walk_at "te")))
local macro_rules | `(tactic| walk_at "ifRet") => `(tactic| (refine' Exs.ifRet ?a ?b; (case a => walk_at "te")))
local macro_rules | `(tactic| walk_at "assign") => `(tactic| (refine' Exs.assign ?a ?b; (case a => walk_at "ev")))
local macro_rules | `(tactic| walk_at "ret") => `(tactic| (refine' Exs.ret (Ev.eq ?a ?b); (case a => walk_at "ev"); (try (case b => with_reducible rfl))))
local macro_rules | `(tactic| walk_at "own") => `(tactic| (refine' Exs.own ?a ?b ?c; (case a => walk_at "evs"); (case b => first | decide | simp)))
local macro_rules | `(tactic| walk_at "append") => `(tactic| (refine' Exs.append ?a ?b ?c; (case a => walk_at "ev")))
local macro_rules | `(tactic| walk_at "range") => `(tactic| (refine' Itb.range ?a ?b; (case a => walk_at "ev"); (case b => first | decide | omega)))
local macro_rules | `(tactic| walk_at "fn") => `(tactic| (
  (case ho => exact rfl); (case hcd => exact rfl); (case hn => decide); (case hl => rfl)
  (case hb => (intro vs hv; (rcases vs with _ | ⟨a, _ | ⟨b, _ | ⟨c, _ | ⟨d, vs⟩⟩⟩⟩ <;> first | (exfalso; simp at hv; done) | rfl)))
  (case hloc => decide); (case hcell => decide); (case hco => rfl); (case hgen => rfl); (case hk => rfl)
  intro s₀ g₀ L
  dsimp only [List.zip_cons_cons, List.zip_nil_right]))

section
open PySem PySem.W PyProof.Rows PySem.Calls
set_option Elab.async false
set_option linter.unusedVariables false
set_option maxRecDepth 100000
set_option maxHeartbeats 4000000
/-- the painter -/
def vF (m1 m2 hue : UInt64) : UInt64 :=
  let h := (Float64.divmod hue 4607182418800017408).snd
  if Float64.cmp h 4595172819793696085 == some .lt then Float64.add m1 (Float64.mul (Float64.mul (Float64.sub m2 m1) h) 4618441417868443648)
  else if Float64.cmp h 4602678819172646912 == some .lt then m2
  else if Float64.cmp h 4604180019048437077 == some .lt then Float64.add m1 (Float64.mul (Float64.mul (Float64.sub m2 m1) (Float64.sub 4604180019048437077 h)) 4618441417868443648)
  else m1
theorem fn_v (w : World) (n : Nat) (m1 m2 hue : UInt64) : Fn Challenge.pw_xe0004_01 w (hd.heap_39 w.params) (n + 1) 51 [.flt m1, .flt m2, .flt hue] (.flt (vF m1 m2 hue)) := by
  refine' Fn.of_def (names := [Str.ofString "m1", Str.ofString "m2", Str.ofString "hue"]) ?ho ?hcd ?hn ?hl ?hb ?hloc ?hcell ?hco ?hgen ?hk ?h
  walk_at "fn"
  unfold vF
  generalize hh : (Float64.divmod hue 4607182418800017408).snd = h
  walk_at "assign"
  rw [hh]
  cases c1 : (Float64.cmp h 4595172819793696085 == some Ordering.lt)
  · walk_at "ifNot"
    cases c2 : (Float64.cmp h 4602678819172646912 == some Ordering.lt)
    · walk_at "ifNot"
      cases c3 : (Float64.cmp h 4604180019048437077 == some Ordering.lt)
      · walk_at "ifNot"
        walk_at "ret"
        simp [c1, c2, c3]
      · walk_at "ifRet"
        walk_at "ret"
        simp [c1, c2, c3]
    · walk_at "ifRet"
      walk_at "ret"
      simp [c1, c2]
  · walk_at "ifRet"
    walk_at "ret"
    simp [c1]
end

section
open PySem PySem.W PyProof.Rows PySem.Calls
set_option Elab.async false
set_option linter.unusedVariables false
set_option maxRecDepth 100000
set_option maxHeartbeats 4000000
def absN (a : Int) : Int := if a < 0 then -a else a
def minI (a b : Int) : Int := if b < a then b else a
def maxI (a b : Int) : Int := if b > a then b else a
def noon1 (k : Int) : Int := minI 8 (maxI 0 (16 - absN ((2 * k + 1).fmod 48 - 24)))
def noonF (hours : Int) : List Int := (List.range 24).map fun i : Nat => noon1 (i + hours)
theorem fn_noon (w : World) (n : Nat) (hours : Int) (hb : -23 ≤ hours ∧ hours ≤ 23) : Fn Challenge.pw_xe0004_01 w (hd.heap_39 w.params) (n + 1) 92 [.int hours] (.lst ((noonF hours).map D.int)) := by
  refine' Fn.of_def (names := [Str.ofString "hours"]) ?ho ?hcd ?hn ?hl ?hb ?hloc ?hcell ?hco ?hgen ?hk ?h
  walk_at "fn"
  walk_at "own"
  refine' Exs.forW (fun _ => [(Str.ofString "hours", D.int hours)]) (fun i => some (Str.ofString "eighths", ((noonF hours).take i).map D.int)) (fun i => bd1 (Str.ofString "hour") (D.int i)) ?hI ?h0 ?hω ?hA ?hB ?hR
  case hI => walk_at "range"
  case h0 =>
    intro p hp
    rw [List.mem_singleton] at hp; subst hp
    walk_at "mem"
  case hω => rfl
  case hA =>
    intro i d hd
    obtain ⟨hi, rfl⟩ := upto_get hd
    exact Asg.name
  case hB =>
    intro g₁ i d hd
    obtain ⟨hi, rfl⟩ := upto_get hd
    unfold bd1
    walk_at "assign"
    walk_at "append"
    · rw [List.length_map, List.length_take]; exact Nat.lt_of_le_of_lt (Nat.min_le_left _ _) (Nat.lt_of_lt_of_le hi (by decide))
    refine' Exs.nilE ?_ ?_
    · intro p hp
      rw [List.mem_singleton] at hp; subst hp
      walk_at "mem"
    · have q : (noonF hours)[i]? = some (noon1 (i + hours)) := range_map_get (f := fun i : Nat => noon1 (i + hours)) hi
      rw [take_int q]
      rfl
  case hR =>
    refine' Exs.freeze ?_
    walk_at "ret"
    rw [upto_length, List.take_of_length_le]
    simp [noonF]
end

section
open PySem PySem.W PyProof.Rows PySem.Calls
set_option Elab.async false
set_option linter.unusedVariables false
set_option maxRecDepth 100000
set_option maxHeartbeats 4000000
def hueOf (k : Int) : UInt64 := Float64.div (Float64.ofInt (3600 * k - 12600)) 4680673776000565248
def paintX (k : Int) : UInt64 := Float64.add (vF 0 4620693217682128896 (hueOf k)) 4602678819172646912
def paintOk (k : Int) : Bool := !Float64.isInf (Float64.ofInt (3600 * k - 12600)) && match Float64.decode (paintX k) with
  | .fin sg m e => Float64.truncOf sg m e == noon1 k
  | _ => false
theorem paint_all : ∀ j : Fin 70, paintOk ((j.val : Int) - 23) = true := by decide +kernel
theorem paint_ok {k : Int} (h : -23 ≤ k ∧ k ≤ 46) : Float64.isInf (Float64.ofInt (3600 * k - 12600)) = false ∧ ∃ sg m e, Float64.decode (paintX k) = .fin sg m e ∧ Float64.truncOf sg m e = noon1 k := by
  have := paint_all ⟨(k + 23).toNat, by omega⟩
  have e : (((k + 23).toNat : Nat) : Int) - 23 = k := by omega
  simp only [e] at this
  unfold paintOk at this
  rw [Bool.and_eq_true] at this
  refine ⟨by simpa using this.1, ?_⟩
  have h2 := this.2
  split at h2
  · rename_i sg m e he
    exact ⟨sg, m, e, he, by simpa using h2⟩
  · cases h2
theorem fn_painted (w : World) (n : Nat) (hours : Int) (hb : -23 ≤ hours ∧ hours ≤ 23) : Fn Challenge.pw_xe0004_01 w (hd.heap_39 w.params) (n + 1 + 1) 85 [.int (3600 * hours)] (.lst ((noonF hours).map D.int)) := by
  refine' Fn.of_def (names := [Str.ofString "seconds"]) ?ho ?hcd ?hn ?hl ?hb ?hloc ?hcell ?hco ?hgen ?hk ?h
  walk_at "fn"
  walk_at "own"
  refine' Exs.forW (fun _ => [(Str.ofString "seconds", D.int (3600 * hours))]) (fun i => some (Str.ofString "eighths", ((noonF hours).take i).map D.int)) (fun i => bd1 (Str.ofString "hour") (D.int i)) ?hI ?h0 ?hω ?hA ?hB ?hR
  case hI => walk_at "range"
  case h0 =>
    intro p hp
    rw [List.mem_singleton] at hp; subst hp
    walk_at "mem"
  case hω => rfl
  case hA =>
    intro i d hd
    obtain ⟨hi, rfl⟩ := upto_get hd
    exact Asg.name
  case hB =>
    intro g₁ i d hd
    obtain ⟨hi, rfl⟩ := upto_get hd
    have hi' : i < 24 := hi
    obtain ⟨h0, sg, m, e, h1, h2⟩ := paint_ok (k := i + hours) (by omega)
    have e3 : 3600 * (i : Int) + 3600 * hours - 12600 = 3600 * ((i : Int) + hours) - 12600 := by omega
    unfold bd1
    refine' Exs.append (d := D.int (noon1 (i + hours))) ?a ?b ?c
    case a =>
      refine' Ev.eq (Ev.callT ?a1 ?b1 ?c1 ?d1) ?e1
      case a1 => exact rfl
      case b1 => exact rfl
      case c1 =>
        refine' Evs.cons ?a2 Evs.nil
        case a2 =>
          refine' Ev.bin ?l ?r ?o
          case l =>
            refine' Ev.call ?hv ?ho ?ha (fn_v w n _ _ _)
            case hv => exact rfl
            case ho => exact ⟨_, _, _, _, rfl⟩
            case ha =>
              refine' Evs.cons ?a3 (Evs.cons ?a4 (Evs.cons ?a5 Evs.nil))
              case a3 => walk_at "ev"
              case a4 => walk_at "ev"
              case a5 =>
                refine' Ev.bin ?l2 ?r2 ?o2
                case l2 => walk_at "ev"
                case r2 => walk_at "ev"
                case o2 =>
                  refine' Op2.divIF ?h8 ?h9
                  case h8 => rw [e3]; exact h0
                  case h9 => decide +kernel
          case r => walk_at "ev"
          case o => walk_at "op"
      case d1 =>
        rw [e3]
        exact OpV.intF h1
      case e1 => rw [h2]
    case b =>
      rw [List.length_map, List.length_take]; exact Nat.lt_of_le_of_lt (Nat.min_le_left _ _) (Nat.lt_of_lt_of_le hi (by decide))
    case c =>
      refine' Exs.nilE ?_ ?_
      · intro p hp
        rw [List.mem_singleton] at hp; subst hp
        walk_at "mem"
      · have q : (noonF hours)[i]? = some (noon1 (i + hours)) := range_map_get (f := fun i : Nat => noon1 (i + hours)) hi
        rw [take_int q]
  case hR =>
    refine' Exs.freeze ?_
    walk_at "ret"
    rw [upto_length, List.take_of_length_le]
    simp [noonF]
end

section
open PySem PySem.W PyProof.Rows PySem.Calls
set_option Elab.async false
set_option linter.unusedVariables false
set_option maxRecDepth 100000
set_option maxHeartbeats 4000000
def ringF (ss : List Int) : List Int := ((List.range 24).filter fun i : Nat => ss.any (· == (i : Int))).map fun i : Nat => (i : Int)
def gapsF (ring : List Int) : List Int := (List.range ring.length).map fun at' : Nat => (ring ++ [ring.headD 0 + 24]).getD (at' + 1) 0 - ring.getD at' 0
def openF (ring : List Int) (longest : Int) : Int := ring.getD ((gapsF ring).idxOf longest) 0
def runF (opener longest : Int) : List Int := (List.range (longest - 16).toNat).map fun i : Nat => (opener + (i : Int)).fmod 24
theorem fn_gaps (w : World) (n : Nat) (ss : List Int) (M : Int) (res : List Int) (hM : M ∈ gapsF (ringF ss)) (hle : ∀ a ∈ gapsF (ringF ss), a ≤ M) (hb : ∀ a ∈ gapsF (ringF ss), -60 ≤ a ∧ a ≤ 60) (hp : res.Perm (runF (openF (ringF ss) M) M)) (hs : res.Pairwise (· ≤ ·)) :
    Fn Challenge.pw_xe0004_01 w (hd.heap_39 w.params) (n + 1) 107 [.lst (ss.map D.int)] (.lst (res.map D.int)) := by
  refine' Fn.of_defC (x := Str.ofString "starts") ?ho ?hcd ?hb ?hkind ?hco ?hgen ?hk ?h
  case ho => exact rfl
  case hcd => exact rfl
  case hb => exact fun _ => rfl
  case hkind => exact .inr ⟨by decide, fun _ => rfl⟩
  case hco => rfl
  case hgen => rfl
  case hk => rfl
  intro s₀ g₀ L
  refine' Exs.assignComp (σ' := [(Str.ofString "starts", D.lst (ss.map D.int))]) (fun d => ss.any (· == d.toI)) id (fun d => bd1 (Str.ofString "hour") d) ?hI ?hclos ?hcap ?hsz ?hA ?hT ?hE ?hb ?hh
  case hI => walk_at "range"
  walk_at "comp"
  case hcap => exact Caps.one Sg.hd rfl rfl fun C => ⟨rfl, rfl⟩
  case hT =>
    intro C d hd
    obtain ⟨i, hi, rfl⟩ := upto_mem hd
    refine' Tes.one ?_
    dsimp only [bd1, id]
    walk_at "te"
  case hE =>
    intro C d hd _
    dsimp only [bd1, id]
    refine' Ev.name ?_
    walk_at "mem"
  case hb =>
    intro d hd p hp
    rw [List.mem_singleton] at hp; subst hp
    dsimp only [bd1, id]
    walk_at "mem"
  have e1 : ((upto (Int.toNat 24)).filter fun d => ss.any (· == d.toI)).map id = (ringF ss).map D.int := by
    unfold upto ringF
    rw [filt_enc (p := fun i : Nat => ss.any (· == (i : Int))) (f2 := fun i : Nat => D.int (i : Int)) (fun _ _ => rfl) (fun _ _ => rfl), List.map_map]
    rfl
  rw [e1]
  generalize hr : ringF ss = ring at *
  have hrl : ring.length ≤ 24 := by
    rw [← hr, ringF, List.length_map]
    exact Nat.le_trans (List.length_filter_le _ _) (by simp)
  have hne : 0 < ring.length := by
    rcases Nat.eq_zero_or_pos ring.length with h | h
    · rw [List.length_eq_zero_iff] at h
      subst h
      cases hM
    · exact h
  walk_at "own"
  refine' Exs.forW (ds := upto ring.length) (fun _ => [(Str.ofString "ring", D.lst (ring.map D.int))]) (fun i => some (Str.ofString "gaps", ((gapsF ring).take i).map D.int)) (fun i => bd1 (Str.ofString "at") (D.int i)) ?hI ?h0 ?hω ?hA ?hB ?hR
  case hI =>
    refine' Itb.range (m := (ring.length : Int)) ?a ?b
    case a =>
      refine' Ev.callT ?a1 ?b1 ?c1 ?d1
      case a1 => exact rfl
      case b1 => exact rfl
      case c1 =>
        refine' Evs.cons ?a2 Evs.nil
        case a2 =>
          refine' Ev.eq (Ev.callB ?a3 ?b3 ?c3 ?d3) ?e3
          case a3 => exact rfl
          case b3 => exact rfl
          case c3 => walk_at "evs"
          case d3 => exact OpV.lenL (by rw [List.length_map]; omega)
          case e3 => rw [List.length_map]
      case d1 => exact OpV.range
    case b => omega
  case h0 =>
    intro p hp
    rw [List.mem_singleton] at hp; subst hp
    walk_at "mem"
  case hω => rfl
  case hA =>
    intro i d hd
    obtain ⟨hi, rfl⟩ := upto_get hd
    exact Asg.name
  case hB =>
    intro g₁ i d hd
    obtain ⟨hi, rfl⟩ := upto_get hd
    dsimp only [bd1]
    refine' Exs.append (d := D.int ((gapsF ring).getD i 0)) ?a ?b ?c
    case a =>
      have hi' : i < ring.length := hi
      refine' Ev.eq (Ev.bin ?l ?r Op2.subI) ?q
      case l =>
        refine' Ev.item (ds := (ring ++ [ring.headD 0 + 24]).map D.int) (k := (i : Int) + 1) (d := D.int ((ring ++ [ring.headD 0 + 24]).getD (i + 1) 0)) ?v ?j ?k1 ?k2 ?k3
        case v =>
          refine' Ev.eq (Ev.bin ?v1 ?v2 (Op2.addL ?v3)) ?v4
          case v1 => walk_at "ev"
          case v2 =>
            refine' Ev.list (ds := [D.int (ring.headD 0 + 24)]) (Evs.cons ?w1 Evs.nil) ?w2
            case w1 =>
              refine' Ev.bin (a := D.int (ring.headD 0)) ?x1 ?x2 Op2.addI
              case x1 =>
                refine' Ev.item (ds := ring.map D.int) (k := 0) ?y1 ?y2 ?y3 ?y4 ?y5
                case y1 => walk_at "ev"
                case y2 => walk_at "ev"
                case y3 => decide
                case y4 => decide
                case y5 =>
                  show (ring.map D.int)[0]? = _
                  rw [getD_int hne]
                  cases ring with
                  | nil => rfl
                  | cons _ _ => rfl
              case x2 => walk_at "ev"
            case w2 => show 1 ≤ sizeLine; decide
          case v3 =>
            rw [List.length_map]
            exact Nat.le_trans (Nat.add_le_add_right hrl _) (by show 25 ≤ sizeLine; decide)
          case v4 => rw [List.map_append]; rfl
        case j => walk_at "ev"
        case k1 => omega
        case k2 => omega
        case k3 =>
          have : ((i : Int) + 1).toNat = i + 1 := by omega
          rw [this]
          exact getD_int (by rw [List.length_append]; simp; exact hi')
      case r =>
        refine' Ev.item (ds := ring.map D.int) (k := (i : Int)) (d := D.int (ring.getD i 0)) ?v ?j ?k1 ?k2 ?k3
        case v => walk_at "ev"
        case j => walk_at "ev"
        case k1 => omega
        case k2 => omega
        case k3 => exact getD_int hi'
      case q =>
        unfold gapsF
        rw [List.getD_eq_getElem?_getD (l := List.map _ _), range_map_get hi']
        rfl
    case b =>
      rw [List.length_map, List.length_take]; exact Nat.lt_of_le_of_lt (Nat.min_le_left _ _) (Nat.lt_of_lt_of_le hi (Nat.le_trans hrl (by decide)))
    case c =>
      refine' Exs.nilE ?_ ?_
      · intro p hp
        rw [List.mem_singleton] at hp; subst hp
        walk_at "mem"
      · have q : (gapsF ring)[i]? = some ((gapsF ring).getD i 0) := by
          rw [List.getD_eq_getElem?_getD]
          have : i < (gapsF ring).length := by simpa [gapsF] using hi
          rw [List.getElem?_eq_getElem this]; rfl
        rw [take_int q]
  case hR =>
    refine' Exs.freeze ?_
    rw [upto_length]
    have e2 : ((gapsF ring).take ring.length).map D.int = (gapsF ring).map D.int := by
      rw [List.take_of_length_le]; simp [gapsF]
    rw [e2]
    have hgl : (gapsF ring).length = ring.length := by simp [gapsF]
    refine' Exs.assign (d := D.int M) ?a ?b
    case a =>
      refine' Ev.callB ?a1 ?b1 ?c1 (OpV.maxL hM hle)
      case a1 => exact rfl
      case b1 => exact rfl
      case c1 => walk_at "evs"
    refine' Exs.assignC (d := D.int (openF ring M)) ?aC ?bC
    case aC =>
      refine' Ev.item (ds := ring.map D.int) (k := ((gapsF ring).idxOf M : Nat)) ?v ?j ?k1 ?k2 ?k3
      case v => walk_at "ev"
      case j =>
        refine' Ev.index ?o ?x (layable_ints (by omega) fun a ha => by have := hb a ha; omega) hM
        case o => walk_at "ev"
        case x => walk_at "ev"
      case k1 => omega
      case k2 =>
        have := List.idxOf_lt_length_of_mem hM
        omega
      case k3 =>
        have := List.idxOf_lt_length_of_mem hM
        exact getD_int (by omega)
    have hM1 := hb M hM
    refine' Exs.ret ?aR
    case aR =>
      refine' Ev.callB ?a1 ?b1 ?c1 (OpV.sorted (ns := runF (openF ring M) M) ?d1 hp hs)
      case a1 => exact rfl
      case b1 => exact rfl
      case d1 =>
        rw [runF, List.length_map, List.length_range]; omega
      case c1 =>
        refine' Evs.cons ?z Evs.nil
        case z =>
          refine' Ev.eq (Ev.comp (σ' := [(Str.ofString "opener", D.int (openF ring M))]) (fun _ => true) (fun d => D.int ((openF ring M + d.toI).fmod 24)) (fun d => bd1 (Str.ofString "step") d) ?hI ?hclos ?hcap ?hsz ?hA ?hT ?hE ?hb) ?e
          case hI => walk_at "range"
          walk_at "comp"
          case hsz =>
            rw [upto_length]
            exact Nat.le_trans (m := 2000) (by omega) (by decide)
          case hcap => exact Caps.one Sg.hd rfl rfl fun C => ⟨rfl, rfl⟩
          case hT =>
            intro C d hd
            exact Tes.nil
          case hE =>
            intro C d hd _
            obtain ⟨i, hi, rfl⟩ := upto_mem hd
            dsimp only [bd1, id]
            refine' Ev.eq ?e1 ?e2
            case e1 => walk_at "ev"
            case e2 => rfl
          case hb =>
            intro d hd p hp
            rw [List.mem_singleton] at hp; subst hp
            dsimp only [bd1]
            walk_at "mem"
          case e =>
            unfold upto runF
            rw [filt_enc (p := fun _ => true) (f2 := fun i : Nat => D.int ((openF ring M + (i : Int)).fmod 24)) (fun _ _ => rfl) (fun _ _ => rfl), List.map_map]
            rw [List.filter_eq_self.mpr (fun _ _ => rfl)]
            rfl
end

section
open PySem PySem.W PyProof.Rows PySem.Calls
set_option Elab.async false
set_option linter.unusedVariables false
set_option maxRecDepth 100000
set_option maxHeartbeats 4000000
def absI (a : Int) : Int := if a < 0 then -a else a
def sgF (h d : Int) : Str := if h < 0 then Str.ofString "-" else if d.fmod 2 == 0 then Str.ofString "+" else Str.ofString ""
def zoneNames : List Str := [Str.ofString "GMT", Str.ofString "UTC", Str.ofString "UT", Str.ofString "Z"]
def shapes : List Str := [Str.ofString "%s%d", Str.ofString "%s%02d", Str.ofString "%s%d:", Str.ofString "%s%02d00", Str.ofString "%s%d00", Str.ofString "%s%d:00", Str.ofString "", Str.ofString "%s%d:0"]
def tails : List (List Nat) := [[], [], [58], [48, 48], [48, 48], [58, 48, 48], [], [58, 48]]
def textF (h d : Int) : Str :=
  if absI h == 0 && decide (d < 7) then zoneNames.getD (d.fmod 4).toNat (Str.ofString "")
  else if d == 6 then sgF h d ++ dig (absI h - 1) ++ ⟨#[58, 54, 48]⟩
  else sgF h d ++ (if d == 1 || d == 3 then pad2 (absI h) else dig (absI h)) ++ ⟨(tails.getD d.toNat []).toArray⟩
theorem dig_short : ∀ j : Fin 24, (dig (j.val : Int)).length ≤ 100 ∧ (pad2 (j.val : Int)).length ≤ 100 := by decide +kernel
theorem dig_short' {k : Int} (h0 : 0 ≤ k) (h1 : k ≤ 23) : (dig k).length ≤ 100 ∧ (pad2 k).length ≤ 100 := by
  have := dig_short ⟨k.toNat, by omega⟩
  simp only [Int.toNat_of_nonneg h0] at this
  exact this
theorem sg_short (h d : Int) : (sgF h d).length ≤ 100 := by
  unfold sgF
  split
  · decide
  · split <;> decide
theorem abs_bounds {h : Int} (hb : -23 ≤ h ∧ h ≤ 23) : 0 ≤ absI h ∧ absI h ≤ 23 := by unfold absI; split <;> omega
theorem meets_shape {h d : Int} (hb : -23 ≤ h ∧ h ≤ 23) (hd : 0 ≤ d ∧ d ≤ 7) (h6 : d ≠ 6) (b : Addr) (t u v : Tok) :
    Meets (PySem.Builtin.«str.__mod__» ⟨[.str (shapes.getD d.toNat (Str.ofString "")) t, .ref b], []⟩) (fun _ R s => IsTup s.heap b #[.str (sgF h d) u, .int (absI h) v] ∧ ∀ t' j, R (.ok (.ret (.str (sgF h d ++ (if d == 1 || d == 3 then pad2 (absI h) else dig (absI h)) ++ ⟨(tails.getD d.toNat []).toArray⟩) t'))) { s with toks := j }) := by
  obtain ⟨a0, a1⟩ := abs_bounds hb
  obtain ⟨l1, l2⟩ := dig_short' a0 a1
  have ls := sg_short h d
  generalize sgF h d = sg at *
  have hd8 : d = 0 ∨ d = 1 ∨ d = 2 ∨ d = 3 ∨ d = 4 ∨ d = 5 ∨ d = 7 := by omega
  rcases hd8 with rfl | rfl | rfl | rfl | rfl | rfl | rfl
  · exact meets_sd b sg t u v (absI h) [] a0 (by omega) ls l1 (by decide) (by decide)
  · exact meets_s02d b sg t u v (absI h) [] a0 (by omega) ls l2 (by decide) (by decide)
  · exact meets_sd b sg t u v (absI h) [58] a0 (by omega) ls l1 (by decide) (by decide)
  · exact meets_s02d b sg t u v (absI h) [48, 48] a0 (by omega) ls l2 (by decide) (by decide)
  · exact meets_sd b sg t u v (absI h) [48, 48] a0 (by omega) ls l1 (by decide) (by decide)
  · exact meets_sd b sg t u v (absI h) [58, 48, 48] a0 (by omega) ls l1 (by decide) (by decide)
  · exact meets_sd b sg t u v (absI h) [58, 48] a0 (by omega) ls l1 (by decide) (by decide)
theorem fn_text (w : World) (n : Nat) (h d : Int) (hb : -23 ≤ h ∧ h ≤ 23) (hdr : 0 ≤ d ∧ d ≤ 7) : Fn Challenge.pw_xe0004_01 w (hd.heap_39 w.params) (n + 1) 78 [.int h, .int d] (.str (textF h d)) := by
  refine' Fn.of_def (names := [Str.ofString "hours", Str.ofString "dress"]) ?ho ?hcd ?hn ?hl ?hb ?hloc ?hcell ?hco ?hgen ?hk ?h
  walk_at "fn"
  obtain ⟨a0, a1⟩ := abs_bounds hb
  refine' Exs.assign (Ev.eq (d' := D.int (absI h)) ?aS1 ?aS2) ?bS
  case aS1 => walk_at "ev"
  case aS2 => rfl
  case bS =>
  cases hc : (absI h == 0 && decide (d < 7))
  · refine' Exs.ifNot (Te.eq (Te.and ?t1 ?t2) ?t3) ?r
    case t1 => walk_at "te1"
    case t2 =>
      intro _
      walk_at "te1"
    case t3 => exact hc
    case r =>
    refine' Exs.assign (d := D.str (if d.fmod 2 == 0 then Str.ofString "+" else Str.ofString "")) ?aG ?bG
    case aG =>
      refine' Ev.ite (c := d.fmod 2 == 0) ?i1 ?i2 ?i3
      case i1 => walk_at "te1"
      case i2 =>
        intro hx
        rw [if_pos hx]
        walk_at "ev"
      case i3 =>
        intro hx
        rw [if_neg (by rw [hx]; exact Bool.false_ne_true)]
        walk_at "ev"
    case bG =>
    refine' Exs.ite (c := decide (h < 0)) (σ' := [(Str.ofString "sign", D.str (sgF h d)), (Str.ofString "size", D.int (absI h)), (Str.ofString "dress", D.int d)]) (ω' := none) ?j1 ?j2 ?j3 ?j4
    case j1 => walk_at "te1"
    case j2 =>
      intro hx
      have hx := of_decide_eq_true hx
      walk_at "assign"
      refine' Exs.nilW ?_
      intro p hp
      rcases List.mem_cons.mp hp with rfl | hp
      · rw [show sgF h d = Str.ofString "-" from if_pos hx]; walk_at "mem"
      · rcases List.mem_cons.mp hp with rfl | hp
        · walk_at "mem"
        · rw [List.mem_singleton] at hp; subst hp; walk_at "mem"
    case j3 =>
      intro hx
      have hx := of_decide_eq_false hx
      refine' Exs.nilW ?_
      intro p hp
      rcases List.mem_cons.mp hp with rfl | hp
      · rw [show sgF h d = (if d.fmod 2 == 0 then Str.ofString "+" else Str.ofString "") from if_neg hx]; walk_at "mem"
      · rcases List.mem_cons.mp hp with rfl | hp
        · walk_at "mem"
        · rw [List.mem_singleton] at hp; subst hp; walk_at "mem"
    case j4 =>
    have e0 : textF h d = if d == 6 then sgF h d ++ dig (absI h - 1) ++ ⟨#[58, 54, 48]⟩ else sgF h d ++ (if d == 1 || d == 3 then pad2 (absI h) else dig (absI h)) ++ ⟨(tails.getD d.toNat []).toArray⟩ := by
      unfold textF; rw [hc]; rfl
    rw [e0]
    by_cases h6 : d = 6
    · subst h6
      refine' Exs.ifRet ?k1 ?k2
      case k1 => walk_at "te"
      case k2 =>
        refine' Exs.ret (Ev.bin ?m1 ?m2 (Op2.modT (sg := sgF h 6) (k := absI h - 1) ?m3))
        case m1 => walk_at "ev"
        case m2 =>
          refine' Ev.tuple ?m4 ?m5
          case m4 => walk_at "evs"
          case m5 => show 2 ≤ sizeLine; decide
        case m3 =>
          have h00 : absI h ≠ 0 := by
            intro q
            rw [q] at hc
            simp at hc
          obtain ⟨l1, l2⟩ := dig_short' (k := absI h - 1) (by omega) (by omega)
          intro b t u v
          exact meets_sd b _ t u v (absI h - 1) [58, 54, 48] (by omega) (by omega) (sg_short h 6) l1 (by decide) (by decide)
    · rw [if_neg (by simpa using h6)]
      refine' Exs.ifNot (Te.eq ?k1 (c := d == 6) ?k2) ?k3
      case k1 => walk_at "te1"
      case k2 => simpa using h6
      case k3 =>
        refine' Exs.assign (d := D.str (shapes.getD d.toNat (Str.ofString ""))) ?a4 ?b4
        case a4 =>
          refine' Ev.itemT (ds := shapes.map D.str) (k := d) ?n1 ?n2 hdr.1 (by omega) ?n3
          case n1 =>
            refine' Ev.eq (Ev.tuple ?n4 ?n5) ?n6
            case n4 => walk_at "evs"
            case n5 => show 8 ≤ sizeLine; decide
            case n6 => rfl
          case n2 => walk_at "ev"
          case n3 =>
            rw [List.getElem?_map, List.getD_eq_getElem?_getD, List.getElem?_eq_getElem (by show d.toNat < 8; omega)]; rfl
        case b4 =>
        refine' Exs.ret (Ev.bin ?m1 ?m2 (Op2.modT (sg := sgF h d) (k := absI h) ?m3))
        case m1 => walk_at "ev"
        case m2 =>
          refine' Ev.tuple ?m4 ?m5
          case m4 => walk_at "evs"
          case m5 => show 2 ≤ sizeLine; decide
        case m3 => exact meets_shape hb hdr h6
  · refine' Exs.ifRet (Te.eq (Te.and ?t1 ?t2) ?t3) ?r
    case t1 => walk_at "te1"
    case t2 =>
      intro _
      walk_at "te1"
    case t3 => exact hc
    case r =>
      have e0 : textF h d = zoneNames.getD (d.fmod 4).toNat (Str.ofString "") := by unfold textF; rw [hc]; rfl
      have hm := Int.fmod_nonneg_of_pos d (b := 4) (by decide)
      have hm2 := Int.fmod_lt_of_pos d (b := 4) (by decide)
      rw [e0]
      refine' Exs.ret (Ev.itemT (ds := zoneNames.map D.str) (k := d.fmod 4) ?n1 ?n2 hm (by omega) ?n3)
      case n1 =>
        refine' Ev.eq (Ev.tuple ?n4 ?n5) ?n6
        case n4 => walk_at "evs"
        case n5 => show 4 ≤ sizeLine; decide
        case n6 => rfl
      case n2 => walk_at "ev"
      case n3 =>
        rw [List.getElem?_map, List.getD_eq_getElem?_getD, List.getElem?_eq_getElem (by show (d.fmod 4).toNat < 4; omega)]; rfl
end

section
open PySem PySem.W PyProof.Rows PySem.Calls PySem.Builtin.Re
set_option Elab.async false
set_option linter.unusedVariables false
set_option maxRecDepth 100000
set_option maxHeartbeats 4000000
def P0 : Params := { strHash := fun _ => 0, shareClass := fun a => a, mergeTok := id, idOf := fun _ => 0, idOfShared := fun _ _ => 0, followText := fun _ => false, idOfImm := fun _ => 0 }
def itemsOf (K : Frag) (a : Addr) : Array Value := match K.lookup a with
  | some ⟨_, _, .seq items _, _⟩ => items
  | _ => #[]
def zoneRun (x : Str) : Sre.M := (Sre.forSearch codeZ x.cps 3 0 x.cps.size false).runFor (4 * (60 + 1))
def outIs (m : Sre.M) (b : Bool) : Bool := match m.outcome, b with
  | some .matched, true => true
  | some .failed, false => true
  | _, _ => false
theorem outIs_eq {m : Sre.M} {b : Bool} (h : outIs m b = true) : m.outcome = some (if b then .matched else .failed) := by
  unfold outIs at h
  split at h
  · rename_i e; rw [e]; rfl
  · rename_i e; rw [e]; rfl
  · cases h
def strD : D → Option Str
  | .str x => some x
  | _ => none
def intD : D → Option Int
  | .str x => if x.length ≤ 640 then PySem.intText? x else none
  | _ => none
/-- the value of the groups of a match -/
def zoneVal (x : Str) (sp : List Int) : Option Int := do
  let v2 ← intD (groupD x sp 2)
  let v ← (match groupD x sp 3 with
    | .none => some (3600 * v2)
    | .str y => if y.length != 0 then (intD (.str y)).map fun v3 => 3600 * v2 + 60 * v3 else none
    | _ => none)
  (match groupD x sp 1 with
    | .none => some v
    | .str y => some (if y == Str.ofString "-" then -v else v)
    | _ => none)
def zoneOk (h d : Int) : Bool :=
  let x := textF h d
  x.cps.size ≤ 100 &&
  if zoneNames.any (· == x) then d != 7 && h == 0
  else if d == 7 then outIs (zoneRun x) false && goodSpans 3 (zoneRun x) && decide ((spansOf 3 (zoneRun x)).length = 8)
  else outIs (zoneRun x) true && goodSpans 3 (zoneRun x) && decide ((spansOf 3 (zoneRun x)).length = 8) && zoneVal x (spansOf 3 (zoneRun x)) == some (3600 * h)
/-- a text with each digit turned to a nought -/
def shapeOf (x : Str) : Str := ⟨x.cps.map cls⟩
theorem shape_sim (x : Str) : Sim x.cps (zoneRun (shapeOf x)) (zoneRun x) := by
  have := Sim.runFor (4 * (60 + 1)) (Sim.search x.cps 3 0 x.cps.size false)
  unfold zoneRun
  rw [show (shapeOf x).cps.size = x.cps.size from Array.size_map]
  exact this
/-- the shapes of all zones: whether the pattern is found in them, and where its groups stand -/
def runTab : List (List Nat × Bool × List Int) := [
  ([45, 48, 48], true, [0, 3, 0, 1, 1, 3, -1, -1]), ([45, 48], true, [0, 2, 0, 1, 1, 2, -1, -1]),
  ([43, 48], true, [0, 2, 0, 1, 1, 2, -1, -1]), ([43, 48, 48], true, [0, 3, 0, 1, 1, 3, -1, -1]),
  ([48, 48], true, [0, 2, -1, -1, 0, 2, -1, -1]), ([45, 48, 48, 58], true, [0, 4, 0, 1, 1, 3, -1, -1]),
  ([45, 48, 58], true, [0, 3, 0, 1, 1, 2, -1, -1]), ([43, 48, 58], true, [0, 3, 0, 1, 1, 2, -1, -1]),
  ([43, 48, 48, 58], true, [0, 4, 0, 1, 1, 3, -1, -1]), ([45, 48, 48, 48, 48], true, [0, 5, 0, 1, 1, 3, 3, 5]),
  ([48, 48, 48, 48], true, [0, 4, -1, -1, 0, 2, 2, 4]), ([45, 48, 48, 48], true, [0, 4, 0, 1, 1, 2, 2, 4]),
  ([43, 48, 48, 48], true, [0, 4, 0, 1, 1, 2, 2, 4]), ([43, 48, 48, 48, 48], true, [0, 5, 0, 1, 1, 3, 3, 5]),
  ([45, 48, 48, 58, 48, 48], true, [0, 6, 0, 1, 1, 3, 4, 6]), ([45, 48, 58, 48, 48], true, [0, 5, 0, 1, 1, 2, 3, 5]),
  ([48, 58, 48, 48], true, [0, 4, -1, -1, 0, 1, 2, 4]), ([48, 48, 58, 48, 48], true, [0, 5, -1, -1, 0, 2, 3, 5]),
  ([43, 48, 58, 48, 48], true, [0, 5, 0, 1, 1, 2, 3, 5]), ([43, 48, 48, 58, 48, 48], true, [0, 6, 0, 1, 1, 3, 4, 6]),
  ([45, 48, 48, 58, 48], false, [5, 5, -1, -1, -1, -1, -1, -1]), ([45, 48, 58, 48], false, [4, 4, -1, -1, -1, -1, -1, -1]),
  ([48, 58, 48], false, [3, 3, -1, -1, -1, -1, -1, -1]), ([48, 48, 58, 48], false, [4, 4, -1, -1, -1, -1, -1, -1])]
def runOk (e : List Nat × Bool × List Int) : Bool := outIs (zoneRun ⟨e.1.toArray⟩) e.2.1 && goodSpans 3 (zoneRun ⟨e.1.toArray⟩) && spansOf 3 (zoneRun ⟨e.1.toArray⟩) == e.2.2
theorem runTab_ok : runTab.all runOk = true := by decide +kernel
def tabAt (x : Str) : Option (List Nat × Bool × List Int) := runTab.find? fun e => e.1 == (shapeOf x).cps.toList
theorem tab_run {x : Str} {e : List Nat × Bool × List Int} (h : tabAt x = some e) : outIs (zoneRun x) e.2.1 = true ∧ goodSpans 3 (zoneRun x) = true ∧ spansOf 3 (zoneRun x) = e.2.2 := by
  have hk := List.find?_some h
  have hs : (⟨e.1.toArray⟩ : Str) = shapeOf x := by
    rw [eq_of_beq hk]
  have ok := List.all_eq_true.mp runTab_ok e (List.mem_of_find?_eq_some h)
  unfold runOk at ok
  rw [hs, Bool.and_eq_true, Bool.and_eq_true] at ok
  obtain ⟨⟨h1, h2⟩, h3⟩ := ok
  have h3 := eq_of_beq h3
  have S := shape_sim x
  revert h1 h2 h3
  generalize zoneRun (shapeOf x) = a at S ⊢
  generalize zoneRun x = b at S ⊢
  cases S
  exact fun h1 h2 h3 => ⟨h1, h2, h3⟩
def zoneTab (h d : Int) : Bool :=
  let x := textF h d
  x.cps.size ≤ 100 &&
  if zoneNames.any (· == x) then d != 7 && h == 0
  else match tabAt x with
    | none => false
    | some e => e.2.1 == (d != 7) && decide (e.2.2.length = 8) && (d == 7 || zoneVal x e.2.2 == some (3600 * h))
theorem zoneOk_of_tab {h d : Int} (q : zoneTab h d = true) : zoneOk h d = true := by
  unfold zoneTab at q
  unfold zoneOk
  simp only [Bool.and_eq_true] at q ⊢
  refine ⟨q.1, ?_⟩
  have q := q.2
  split at q
  · rename_i hn; rw [if_pos hn]; exact q
  · rename_i hn
    rw [if_neg hn]
    split at q
    · cases q
    · rename_i e he
      obtain ⟨h1, h2, h3⟩ := tab_run he
      rw [h3]
      simp only [Bool.and_eq_true, beq_iff_eq] at q
      obtain ⟨⟨q1, q2⟩, q3⟩ := q
      rw [q1] at h1
      by_cases hd : (d == 7) = true
      · rw [if_pos hd]
        rw [show (d != 7) = false by unfold bne; rw [hd]; rfl] at h1
        simp only [Bool.and_eq_true]
        exact ⟨⟨h1, h2⟩, q2⟩
      · rw [if_neg hd]
        rw [show (d != 7) = true by unfold bne; simp [hd]] at h1
        simp only [Bool.and_eq_true]
        refine ⟨⟨⟨h1, h2⟩, q2⟩, ?_⟩
        rw [Bool.or_eq_true] at q3
        exact q3.resolve_left hd
theorem tab_0 : ∀ i : Fin 47, zoneTab ((i.val : Int) - 23) 0 = true := by decide +kernel
theorem tab_1 : ∀ i : Fin 47, zoneTab ((i.val : Int) - 23) 1 = true := by decide +kernel
theorem tab_2 : ∀ i : Fin 47, zoneTab ((i.val : Int) - 23) 2 = true := by decide +kernel
theorem tab_3 : ∀ i : Fin 47, zoneTab ((i.val : Int) - 23) 3 = true := by decide +kernel
theorem tab_4 : ∀ i : Fin 47, zoneTab ((i.val : Int) - 23) 4 = true := by decide +kernel
theorem tab_5 : ∀ i : Fin 47, zoneTab ((i.val : Int) - 23) 5 = true := by decide +kernel
theorem tab_6 : ∀ i : Fin 47, zoneTab ((i.val : Int) - 23) 6 = true := by decide +kernel
theorem tab_7 : ∀ i : Fin 47, zoneTab ((i.val : Int) - 23) 7 = true := by decide +kernel
theorem zone_0 (i : Fin 47) : zoneOk ((i.val : Int) - 23) 0 = true := zoneOk_of_tab (tab_0 i)
theorem zone_1 (i : Fin 47) : zoneOk ((i.val : Int) - 23) 1 = true := zoneOk_of_tab (tab_1 i)
theorem zone_2 (i : Fin 47) : zoneOk ((i.val : Int) - 23) 2 = true := zoneOk_of_tab (tab_2 i)
theorem zone_3 (i : Fin 47) : zoneOk ((i.val : Int) - 23) 3 = true := zoneOk_of_tab (tab_3 i)
theorem zone_4 (i : Fin 47) : zoneOk ((i.val : Int) - 23) 4 = true := zoneOk_of_tab (tab_4 i)
theorem zone_5 (i : Fin 47) : zoneOk ((i.val : Int) - 23) 5 = true := zoneOk_of_tab (tab_5 i)
theorem zone_6 (i : Fin 47) : zoneOk ((i.val : Int) - 23) 6 = true := zoneOk_of_tab (tab_6 i)
theorem zone_7 (i : Fin 47) : zoneOk ((i.val : Int) - 23) 7 = true := zoneOk_of_tab (tab_7 i)
end

section
open PySem PySem.W PyProof.Rows PySem.Calls PySem.Builtin.Re
set_option Elab.async false
set_option linter.unusedVariables false
set_option maxRecDepth 100000
set_option maxHeartbeats 4000000
theorem zone_ok {h d : Int} (hb : -23 ≤ h ∧ h ≤ 23) (hdr : 0 ≤ d ∧ d ≤ 7) : zoneOk h d = true := by
  have hd8 : d = 0 ∨ d = 1 ∨ d = 2 ∨ d = 3 ∨ d = 4 ∨ d = 5 ∨ d = 6 ∨ d = 7 := by omega
  have e : (((h + 23).toNat : Nat) : Int) - 23 = h := by omega
  rcases hd8 with rfl | rfl | rfl | rfl | rfl | rfl | rfl | rfl
  · have := zone_0 ⟨(h + 23).toNat, by omega⟩; simp only [e] at this; exact this
  · have := zone_1 ⟨(h + 23).toNat, by omega⟩; simp only [e] at this; exact this
  · have := zone_2 ⟨(h + 23).toNat, by omega⟩; simp only [e] at this; exact this
  · have := zone_3 ⟨(h + 23).toNat, by omega⟩; simp only [e] at this; exact this
  · have := zone_4 ⟨(h + 23).toNat, by omega⟩; simp only [e] at this; exact this
  · have := zone_5 ⟨(h + 23).toNat, by omega⟩; simp only [e] at this; exact this
  · have := zone_6 ⟨(h + 23).toNat, by omega⟩; simp only [e] at this; exact this
  · have := zone_7 ⟨(h + 23).toNat, by omega⟩; simp only [e] at this; exact this
def offD (h d : Int) : D := if d = 7 then .none else .int (3600 * h)

section
variable {prog : Program} {w : World} {K : Frag} {n : Nat} {env : Env} {σ : Sg} {o e : Expr} {pos apos : Pos}
theorem Ev.group {x : Str} {sp : List Int} {g : Nat} {a : Expr} (ho : Ev prog w K n env σ o (.mat x sp)) (ha : Ev prog w K n env σ a (.int g)) (hg : 2 * g < sp.length) (hx : x.cps.size ≤ sizeLine)
    (hbase : attributeBase o "group" env (eval o env) = eval o env := by rfl)
    (hfew : ((backTo pos (starEach [a] env)).all (fun x => !x.1) && (backToKw pos (keywordEach [] env)).all (fun x => x.1.isSome)
      && decide (([a] : List Expr).length + ([] : List Keyword).length + (if ([] : List Keyword).isEmpty then 0 else 1) < 30)) = true := by rfl)
    (hline : (apos.endLine == pos.line) = true := by rfl)
    (he : starEach [a] env = (false, eval a env) :: starEach [] env := by rfl) :
    Ev prog w K n env σ (.Call (.Attribute o "group" apos) [a] [] pos) (groupD x sp g) :=
  Ev.meth ho (fun g v s _ => Of.mat g v s) plainAttrs_match slot_group type_group (Evs.cons ha Evs.nil he) (OpV.group hg hx) hbase hfew hline he rfl
theorem Ev.searchZ {x : Str} {a : Expr} {ob : Obj} {pa c : Addr} {vs items : Array Value} {nn k groups : Nat} {b : Bool} {M : Sre.M} (ho : Ev prog w K n env σ o (.adr pa)) (ha : Ev prog w K n env σ a (.str x))
    (hp : K.lookup pa = some ob) (hob : ob = { cls := .type "re.Pattern", data := .fields vs }) (h6 : reRawNat (vs.getD 6 .none) = 0) (h2 : reRawNat (vs.getD 2 .none) = groups) (h5 : vs.getD 5 .none = .ref c)
    (hc : K.lookup c = some { cls := .type "tuple", data := .seq items nn }) (hx : x.cps.size < 2 ^ 63) (hk : k < 2 ^ 64)
    (hM : (Sre.forSearch ((items.map reRawOf).map Int.toNat) x.cps groups 0 x.cps.size false).runFor (4 * (k + 1)) = M) (hout : M.outcome = some (if b then .matched else .failed)) (hg : goodSpans groups M = true) (hl : (spansOf groups M).length ≤ sizeLine)
    (hbase : attributeBase o "search" env (eval o env) = eval o env := by rfl)
    (hfew : ((backTo pos (starEach [a] env)).all (fun x => !x.1) && (backToKw pos (keywordEach [] env)).all (fun x => x.1.isSome)
      && decide (([a] : List Expr).length + ([] : List Keyword).length + (if ([] : List Keyword).isEmpty then 0 else 1) < 30)) = true := by rfl)
    (hline : (apos.endLine == pos.line) = true := by rfl)
    (he : starEach [a] env = (false, eval a env) :: starEach [] env := by rfl) :
    Ev prog w K n env σ (.Call (.Attribute o "search" apos) [a] [] pos) (if b then .mat x (spansOf groups M) else .none) :=
  Ev.meth ho (fun g v s G i S => Of.adr hp (by rw [hob]) (by rw [hob]) G i S) plainAttrs_pattern slot_search type_search (Evs.cons ha Evs.nil he) (OpV.search hp hob h6 h2 h5 hc hx hk hM hout hg hl) hbase hfew hline he rfl
theorem OpV.intS {x : Str} {v : Int} (h : intD (.str x) = some v) : OpV prog w K n env σ (fun vs => PySem.call (.type "int") vs) [.str x] (.int v) := fun A s g E vs P I => by
  have h : (if x.length ≤ 640 then PySem.intText? x else none) = some v := h
  by_cases hl : x.length ≤ 640
  · rw [if_pos hl] at h
    cases I with
    | cons i r =>
    cases r
    cases i
    exact KIN.call_text h hl (Post.here P (.int _ _) _)
  · rw [if_neg hl] at h; cases h
end
theorem zoneVal_some {x : Str} {sp : List Int} {r : Int} (h : zoneVal x sp = some r) :
    ∃ y2 v2, groupD x sp 2 = .str y2 ∧ intD (.str y2) = some v2 ∧ ∃ v,
      ((groupD x sp 3 = .none ∧ v = 3600 * v2) ∨ ∃ y3 v3, groupD x sp 3 = .str y3 ∧ (y3.length != 0) = true ∧ intD (.str y3) = some v3 ∧ v = 3600 * v2 + 60 * v3) ∧
      ((groupD x sp 1 = .none ∧ r = v) ∨ ∃ y1, groupD x sp 1 = .str y1 ∧ r = if y1 == Str.ofString "-" then -v else v) := by
  unfold zoneVal at h
  cases q2 : intD (groupD x sp 2) with
  | none => rw [q2] at h; cases h
  | some v2 =>
  rw [q2] at h
  have e2 : ∃ y, groupD x sp 2 = .str y := by
    cases q : groupD x sp 2 <;> rw [q] at q2 <;> first | exact ⟨_, rfl⟩ | cases q2
  obtain ⟨y2, e2⟩ := e2
  rw [e2] at q2
  refine ⟨y2, v2, e2, q2, ?_⟩
  have fin : ∀ v, (match groupD x sp 1 with | .none => some v | .str y => some (if y == Str.ofString "-" then -v else v) | _ => none) = some r →
      ((groupD x sp 1 = .none ∧ r = v) ∨ ∃ y1, groupD x sp 1 = .str y1 ∧ r = if y1 == Str.ofString "-" then -v else v) := fun v hv => by
    cases q1 : groupD x sp 1 <;> rw [q1] at hv
    case none => left; exact ⟨rfl, (Option.some.inj hv).symm⟩
    case str y => right; exact ⟨y, rfl, (Option.some.inj hv).symm⟩
    all_goals cases hv
  cases q3 : groupD x sp 3
  case none =>
    rw [q3] at h
    exact ⟨_, .inl ⟨rfl, rfl⟩, fin _ h⟩
  case str y3 =>
    rw [q3] at h
    by_cases hl : (y3.length != 0) = true
    · cases i3 : intD (.str y3) with
      | none =>
        simp only [hl, i3] at h
        cases h
      | some v3 =>
        simp only [hl, i3] at h
        exact ⟨_, .inr ⟨y3, v3, rfl, hl, i3, rfl⟩, fin _ h⟩
    · simp only [hl] at h
      cases h
  all_goals (rw [q3] at h; cases h)
theorem fn_offset (w : World) (n : Nat) (h d : Int) (hb : -23 ≤ h ∧ h ≤ 23) (hdr : 0 ≤ d ∧ d ≤ 7) : Fn Challenge.pw_xe0004_01 w (hd.heap_39 w.params) (n + 1) 64 [.str (textF h d)] (offD h d) := by
  have hz := zone_ok hb hdr
  refine' Fn.of_def (names := [Str.ofString "tz"]) ?ho ?hcd ?hn ?hl ?hb ?hloc ?hcell ?hco ?hgen ?hk ?h
  walk_at "fn"
  unfold zoneOk at hz
  dsimp only at hz
  rw [Bool.and_eq_true] at hz
  obtain ⟨hsz, hz⟩ := hz
  have hsz := of_decide_eq_true hsz
  generalize textF h d = x at *
  walk_at "assign"
  refine' Exs.ite (c := zoneNames.any (· == x)) (σ' := [(Str.ofString "offset", offD h d)]) (ω' := none) ?it ?ia ?ib ?ir
  case it =>
    refine' Te.eq (Te.cmp ?l ?rr (Op2.inK (es := _) ?k1 ?k2 ?k3)) ?q
    case l => walk_at "ev"
    case rr =>
      refine' Ev.top (v := Value.ref 52) (d := D.adr 52) ?a1 ?b1
      case a1 => exact rfl
      case b1 => intro g G; exact Is.adr _
    case k1 => exact rfl
    case k2 => k_keys
    case k3 => decide
    case q =>
      simp only [findBy, List.find?_toArray, List.find?_cons, List.find?_nil, Value.isStrOf, zoneNames, List.any_cons, List.any_nil, Option.isSome_map]
      cases (Str.ofString "GMT" == x) <;> cases (Str.ofString "UTC" == x) <;> cases (Str.ofString "UT" == x) <;> cases (Str.ofString "Z" == x) <;> rfl
  case ir => walk_at "ret"
  case ia =>
    intro hx
    rw [if_pos hx] at hz
    have h7 : d ≠ 7 := by intro q; subst q; simp at hz
    have h0 : h = 0 := by simp at hz; exact hz.2
    walk_at "assign"
    refine' Exs.nilW ?_
    intro p hp
    rw [List.mem_singleton] at hp; subst hp
    rw [show offD h d = D.int 0 by unfold offD; rw [if_neg h7, h0]; rfl]
    walk_at "mem"
  case ib =>
    intro hx
    rw [if_neg (by rw [hx]; exact Bool.false_ne_true)] at hz
    have hrun : ∃ b : Bool, b = (d != 7) ∧ outIs (zoneRun x) b = true ∧ goodSpans 3 (zoneRun x) = true ∧ (spansOf 3 (zoneRun x)).length = 8 ∧ (d ≠ 7 → zoneVal x (spansOf 3 (zoneRun x)) = some (3600 * h)) := by
      by_cases h7 : d = 7
      · subst h7
        rw [if_pos (by rfl)] at hz
        simp only [Bool.and_eq_true, decide_eq_true_eq] at hz
        exact ⟨false, rfl, hz.1.1, hz.1.2, hz.2, fun q => absurd rfl q⟩
      · rw [if_neg (by simpa using h7)] at hz
        simp only [Bool.and_eq_true, decide_eq_true_eq] at hz
        exact ⟨true, by simp [h7], hz.1.1.1, hz.1.1.2, hz.1.2, fun _ => by simpa using hz.2⟩
    obtain ⟨b, hb7, ho, hg, hl, hv⟩ := hrun
    clear hz
    have hM : zoneRun x = zoneRun x := rfl
    generalize hMM : zoneRun x = M at *
    have hxx : x.cps.size ≤ sizeLine := Nat.le_trans hsz (by decide)
    refine' Exs.assign (d := if b then .mat x (spansOf 3 M) else .none) ?sa ?sb
    case sa =>
      refine' Ev.searchZ (k := 60) (pa := 57) (c := 56) ?s1 ?s2 ?s3 rfl ?s5 ?s6 ?s7 ?s8 ?s9 ?s10 ?s11 (outIs_eq ho) hg ?s13
      case s1 =>
        refine' Ev.top (v := Value.ref 57) (d := D.adr 57) ?a1 ?b1
        case a1 => exact rfl
        case b1 => intro g G; exact Is.adr _
      case s2 => walk_at "ev"
      case s3 => exact rfl
      case s5 => exact rfl
      case s6 => exact rfl
      case s7 => exact rfl
      case s8 => exact rfl
      case s9 => omega
      case s10 => decide
      case s11 =>
        refine' Eq.trans (congrArg (fun c => (Sre.forSearch c x.cps 3 0 x.cps.size false).runFor (4 * (60 + 1))) ?_) hMM
        decide +kernel
      case s13 => rw [hl]; decide
    case sb =>
    cases b with
    | false =>
      rw [if_neg Bool.false_ne_true]
      have h7 : d = 7 := by simpa using hb7.symm
      refine' Exs.ifNot (Te.noneV ?v1) ?v2
      case v1 => walk_at "ev"
      case v2 =>
        refine' Exs.nilW ?_
        intro p hp
        rw [List.mem_singleton] at hp; subst hp
        rw [show offD h d = D.none from if_pos h7]
        walk_at "mem"
    | true =>
      rw [if_pos rfl]
      have h7 : d ≠ 7 := by simpa using hb7.symm
      have hv := hv h7
      refine' Exs.ifYes (σ' := [(Str.ofString "offset", offD h d)]) (ω' := none) (Te.matV (x := x) (spans := spansOf 3 M) ?v1) ?v2 ?v3
      case v1 => walk_at "ev"
      case v3 =>
        exact Exs.nilW fun p hp => hp
      case v2 =>
        have hoff : offD h d = D.int (3600 * h) := if_neg h7
        rw [hoff]
        clear hoff h7 hb7 ho hg hM hMM
        generalize spansOf 3 M = sp at *
        obtain ⟨y2, v2, g2, i2, v, h3, h1⟩ := zoneVal_some hv
        refine' Exs.assign (d := D.int (3600 * v2)) ?xa ?xb
        case xa =>
          refine' Ev.bin ?xc ?xd (Op2.mulI ?xe)
          case xc => walk_at "ev"
          case xd =>
            refine' Ev.callT ?a1 ?b1 ?c1 (OpV.intS i2)
            case a1 => exact rfl
            case b1 => exact rfl
            case c1 =>
              refine' Evs.cons (Ev.eq (Ev.group (g := 2) ?y1 ?y2 ?y3 hxx) g2) Evs.nil
              case y1 => walk_at "ev"
              case y2 => exact Ev.int
              case y3 => omega
          case xe => mul_fits
        case xb =>
        refine' Exs.ite (c := match groupD x sp 3 with | .str _ => true | _ => false) (σ' := [(Str.ofString "offset", D.int v), (Str.ofString "m", D.mat x sp)]) (ω' := none) ?za ?zb ?zc ?zd
        case za =>
          rcases h3 with ⟨g3, _⟩ | ⟨y3, v3, g3, l3, i3, _⟩
          · rw [g3]
            refine' Te.noneV (Ev.eq (Ev.group (g := 3) ?y1 ?y2 ?y3 hxx) g3)
            case y1 => walk_at "ev"
            case y2 => exact Ev.int
            case y3 => omega
          · rw [g3]
            have hl3 : y3.length ≤ 640 := by
              unfold intD at i3
              by_cases q : y3.length ≤ 640
              · exact q
              · simp only [q, if_false] at i3; cases i3
            have hne : ((y3.length : Int) != 0) = true := by
              have : y3.length ≠ 0 := by simpa using l3
              simp; omega
            refine' Te.eq (Te.strV (x := y3) (Ev.eq (Ev.group (g := 3) ?y1 ?y2 ?y3 hxx) g3) ?y4) hne
            case y1 => walk_at "ev"
            case y2 => exact Ev.int
            case y3 => omega
            case y4 => omega
        case zb =>
          intro hc
          rcases h3 with ⟨g3, _⟩ | ⟨y3, v3, g3, l3, i3, e3⟩
          · rw [g3] at hc; cases hc
          · refine' Exs.assign (d := D.int v) ?xa ?xb
            case xa =>
              rw [e3]
              refine' Ev.bin ?l ?r Op2.addI
              case l => walk_at "ev"
              case r =>
                refine' Ev.bin ?xc ?xd (Op2.mulI ?xe)
                case xc => walk_at "ev"
                case xd =>
                  refine' Ev.callT ?a1 ?b1 ?c1 (OpV.intS i3)
                  case a1 => exact rfl
                  case b1 => exact rfl
                  case c1 =>
                    refine' Evs.cons (Ev.eq (Ev.group (g := 3) ?y1 ?y2 ?y3 hxx) g3) Evs.nil
                    case y1 => walk_at "ev"
                    case y2 => exact Ev.int
                    case y3 => omega
                case xe => mul_fits
            case xb =>
              refine' Exs.nilW ?_
              intro p hp
              rcases List.mem_cons.mp hp with rfl | hp
              · walk_at "mem"
              · rw [List.mem_singleton] at hp; subst hp; walk_at "mem"
        case zc =>
          intro hc
          rcases h3 with ⟨g3, e3⟩ | ⟨y3, v3, g3, l3, i3, e3⟩
          · refine' Exs.nilW ?_
            intro p hp
            rcases List.mem_cons.mp hp with rfl | hp
            · rw [e3]; walk_at "mem"
            · rw [List.mem_singleton] at hp; subst hp; walk_at "mem"
          · rw [g3] at hc; cases hc
        case zd =>
          refine' Exs.ite (c := match groupD x sp 1 with | .str y => y == Str.ofString "-" | _ => false) (σ' := [(Str.ofString "offset", D.int (3600 * h))]) (ω' := none) ?qa ?qb ?qc ?qd
          case qa =>
            rcases h1 with ⟨g1, _⟩ | ⟨y1, g1, _⟩
            · rw [g1]
              refine' Te.cmp (Ev.eq (Ev.group (g := 1) ?y1 ?y2 ?y3 hxx) g1) ?y4 Op2.eqNS
              case y1 => walk_at "ev"
              case y2 => exact Ev.int
              case y3 => omega
              case y4 => walk_at "ev"
            · rw [g1]
              refine' Te.cmp (Ev.eq (Ev.group (g := 1) ?y1 ?y2 ?y3 hxx) g1) ?y4 Op2.eqS
              case y1 => walk_at "ev"
              case y2 => exact Ev.int
              case y3 => omega
              case y4 => walk_at "ev"
          case qb =>
            intro hc
            rcases h1 with ⟨g1, _⟩ | ⟨y1, g1, e1⟩
            · rw [g1] at hc; cases hc
            · rw [g1] at hc
              rw [if_pos hc] at e1
              rw [e1]
              walk_at "assign"
              refine' Exs.nilW ?_
              intro p hp
              rw [List.mem_singleton] at hp; subst hp; walk_at "mem"
          case qc =>
            intro hc
            have e1 : 3600 * h = v := by
              rcases h1 with ⟨g1, e1⟩ | ⟨y1, g1, e1⟩
              · exact e1
              · rw [g1] at hc
                have hc : (y1 == Str.ofString "-") = false := hc
                rw [if_neg (by rw [hc]; exact Bool.false_ne_true)] at e1
                exact e1
            rw [e1]
            refine' Exs.nilW ?_
            intro p hp
            rw [List.mem_singleton] at hp; subst hp; walk_at "mem"
          case qd => exact Exs.nil
end

section
open PySem PySem.W PyProof.Rows PySem.Calls
set_option Elab.async false
set_option linter.unusedVariables false
set_option maxRecDepth 100000
set_option maxHeartbeats 4000000
def bigB : Int := 10 ^ (9 : Int).toNat
def cellsI (xs : List Int) : Nat → List Int
  | 0 => [197, 313, 347, 49]
  | i + 1 => (cellsI xs i).set ((i : Int).fmod 4).toNat ((cellsI xs i).getD ((i : Int).fmod 4).toNat 0 + (xs.getD i 0).fmod bigB)
theorem cellsI_len (xs : List Int) : ∀ i, (cellsI xs i).length = 4
  | 0 => rfl
  | i + 1 => by rw [cellsI, List.length_set]; exact cellsI_len xs i
theorem cellsI_nonneg (xs : List Int) : ∀ i, ∀ a ∈ cellsI xs i, 0 ≤ a
  | 0 => fun a ha => by simp [cellsI] at ha; omega
  | i + 1 => fun a ha => by
    rw [cellsI] at ha
    rcases List.mem_or_eq_of_mem_set ha with h | h
    · exact cellsI_nonneg xs i a h
    · subst h
      have h1 : 0 ≤ (xs.getD i 0).fmod bigB := Int.fmod_nonneg_of_pos _ (by decide)
      have h2 : 0 ≤ (cellsI xs i).getD ((i : Int).fmod 4).toNat 0 := by
        rw [List.getD_eq_getElem?_getD]
        cases q : (cellsI xs i)[((i : Int).fmod 4).toNat]? with
        | none => exact Int.le_refl 0
        | some b => exact cellsI_nonneg xs i b (List.mem_of_getElem? q)
      omega
def hoursO (n : Int) : Int := if (n.fdiv 24).fmod 2 == 1 then -(n.fmod 24) else n.fmod 24
def dressO (i : Nat) (n : Int) : Int := (n.fdiv 48).fmod (if (i : Int) == 0 then 7 else 8)
def officeD (i : Nat) (n : Int) : D := .tup [.int (hoursO n), .int (dressO i n)]
def officesD (cs : List Int) : List D := (List.range cs.length).map fun i => officeD i (cs.getD i 0)
theorem Op2.iaddI {prog : Program} {w : World} {K : Frag} {n : Nat} {env : Env} {σ : Sg} {a b : Int} : Op2 prog w K n env σ (inplaceOp .Add) (.int a) (.int b) (.int (a + b)) := fun A s g E v u P hv hu => by
  cases hv; cases hu; exact iadd_int (Post.here P (.int _ _) _)
theorem fn_offices (w : World) (n : Nat) (xs : List Int) (hl : xs.length ≤ 63) : Fn Challenge.pw_xe0004_01 w (hd.heap_39 w.params) (n + 1) 71 [.lst (xs.map D.int)] (.lst (officesD (cellsI xs (xs.take 40).length))) := by
  refine' Fn.of_def (names := [Str.ofString "script"]) ?ho ?hcd ?hn ?hl ?hb ?hloc ?hcell ?hco ?hgen ?hk ?h
  walk_at "fn"
  walk_at "own"
  refine' Exs.forW (ds := enumD 0 (((xs.map D.int).take (cut 40 (xs.map D.int).length)))) (fun _ => []) (fun i => some (Str.ofString "cells", (cellsI xs i).map D.int)) (fun i => fun σ => bd1 (Str.ofString "number") (D.int (xs.getD i 0)) (bd1 (Str.ofString "at") (D.int i) σ)) ?hI ?h0 ?hω ?hA ?hB ?hR
  case hI =>
    refine' Itb.enum ?a1 ?a2 ?a3
    case a1 => exact rfl
    case a2 => exact rfl
    case a3 =>
      refine' Ev.sliceTo ?b1 ?b2 ?b3
      case b1 => walk_at "ev"
      case b2 => walk_at "ev"
      case b3 => rw [List.length_map]; exact Nat.le_trans hl (by decide)
  case h0 => intro p hp; cases hp
  case hω => rfl
  case hA =>
    intro i d hd
    obtain ⟨d', h1, rfl⟩ := enumD_get _ 0 i d hd
    rw [List.getElem?_take] at h1
    split at h1
    · rw [List.getElem?_map] at h1
      have e : d' = D.int (xs.getD i 0) := by
        rw [List.getD_eq_getElem?_getD]
        cases q : xs[i]? with
        | none => rw [q] at h1; cases h1
        | some x => rw [q] at h1; cases h1; rfl
      subst e
      rw [Nat.zero_add]
      exact Asg.pair
    · cases h1
  case hB =>
    intro g₁ i d hd
    dsimp only [bd1]
    have hf0 := Int.fmod_nonneg_of_pos (i : Int) (b := 4) (by decide)
    have hf1 := Int.fmod_lt_of_pos (i : Int) (b := 4) (by decide)
    have hcl := cellsI_len xs i
    refine' Exs.augAt (d₀ := D.int ((cellsI xs i).getD ((i : Int).fmod 4).toNat 0)) (d := D.int ((xs.getD i 0).fmod bigB)) ?b1 ?b2 hf0 ?b3 ?b4 Op2.iaddI ?b5
    case b1 => walk_at "ev"
    case b2 =>
      refine' Ev.eq ?c1 ?c2
      case c1 => walk_at "ev"
      case c2 => rfl
    case b3 => exact getD_int (by omega)
    case b4 => omega
    case b5 =>
      refine' Exs.nilE (fun p hp => by cases hp) ?_
      rw [cellsI]
      have : ∀ (l : List Int) (j : Nat) (x : Int), (l.map D.int).set j (D.int x) = (l.set j x).map D.int := fun l j x => by rw [List.map_set]
      rw [this]
  case hR =>
    have e1 : (enumD 0 ((xs.map D.int).take (cut 40 (xs.map D.int).length))).length = (xs.take 40).length := by
      rw [enumD_length, List.length_take, List.length_map, List.length_take]
      unfold cut
      simp
      omega
    rw [e1]
    have hcl := cellsI_len xs (xs.take 40).length
    have hcn := cellsI_nonneg xs (xs.take 40).length
    generalize cellsI xs (xs.take 40).length = cs at *
    refine' Exs.freeze ?_
    walk_at "own"
    refine' Exs.forW (ds := enumD 0 (cs.map D.int)) (fun _ => []) (fun i => some (Str.ofString "offices", (officesD cs).take i)) (fun i => fun σ => bd1 (Str.ofString "n") (D.int (cs.getD i 0)) (bd1 (Str.ofString "at") (D.int i) σ)) ?hI ?h0 ?hω ?hA ?hB ?hR
    case hI =>
      refine' Itb.enum ?a1 ?a2 ?a3
      case a1 => exact rfl
      case a2 => exact rfl
      case a3 => walk_at "ev"
    case h0 => intro p hp; cases hp
    case hω => rfl
    case hA =>
      intro i d hd
      obtain ⟨d', h1, rfl⟩ := enumD_get _ 0 i d hd
      rw [List.getElem?_map] at h1
      have e : d' = D.int (cs.getD i 0) := by
        rw [List.getD_eq_getElem?_getD]
        cases q : cs[i]? with
        | none => rw [q] at h1; cases h1
        | some x => rw [q] at h1; cases h1; rfl
      subst e
      rw [Nat.zero_add]
      exact Asg.pair
    case hB =>
      intro g₁ i d hd
      obtain ⟨d', h1, _⟩ := enumD_get _ 0 i d hd
      have hi : i < cs.length := by
        have := (List.getElem?_eq_some_iff.mp h1).1
        simpa using this
      dsimp only [bd1]
      walk_at "assign"
      refine' Exs.ite (c := ((cs.getD i 0).fdiv 24).fmod 2 == 1) (σ' := [(Str.ofString "hours", D.int (hoursO (cs.getD i 0))), (Str.ofString "n", D.int (cs.getD i 0)), (Str.ofString "at", D.int i)]) (ω' := some (Str.ofString "offices", (officesD cs).take i)) ?j1 ?j2 ?j3 ?j4
      case j1 => walk_at "te1"
      case j2 =>
        intro hx
        walk_at "assign"
        refine' Exs.nilW ?_
        intro p hp
        rcases List.mem_cons.mp hp with rfl | hp
        · rw [show hoursO (cs.getD i 0) = -((cs.getD i 0).fmod 24) from if_pos hx]; walk_at "mem"
        · rcases List.mem_cons.mp hp with rfl | hp
          · walk_at "mem"
          · rw [List.mem_singleton] at hp; subst hp; walk_at "mem"
      case j3 =>
        intro hx
        refine' Exs.nilW ?_
        intro p hp
        rcases List.mem_cons.mp hp with rfl | hp
        · rw [show hoursO (cs.getD i 0) = (cs.getD i 0).fmod 24 from if_neg (by rw [hx]; exact Bool.false_ne_true)]; walk_at "mem"
        · rcases List.mem_cons.mp hp with rfl | hp
          · walk_at "mem"
          · rw [List.mem_singleton] at hp; subst hp; walk_at "mem"
      case j4 =>
        refine' Exs.append (d := officeD i (cs.getD i 0)) ?k1 ?k2 ?k3
        case k1 =>
          refine' Ev.tuple ?l1 ?l2
          case l1 =>
            refine' Evs.cons ?m1 (Evs.cons ?m2 Evs.nil)
            case m1 => walk_at "ev"
            case m2 =>
              refine' Ev.bin (b := D.int (if (i : Int) == 0 then 7 else 8)) ?o1 ?o2 (Op2.modI ?o3)
              case o1 => walk_at "ev"
              case o2 =>
                refine' Ev.ite (c := (i : Int) == 0) ?i1 ?i2 ?i3
                case i1 => walk_at "te1"
                case i2 =>
                  intro hx
                  rw [if_pos hx]
                  walk_at "ev"
                case i3 =>
                  intro hx
                  rw [if_neg (by rw [hx]; exact Bool.false_ne_true)]
                  walk_at "ev"
              case o3 => split <;> decide
          case l2 => show 2 ≤ sizeLine; decide
        case k2 =>
          rw [List.length_take]
          exact Nat.lt_of_le_of_lt (Nat.min_le_left _ _) (Nat.lt_of_lt_of_le (hcl ▸ hi) (by decide))
        case k3 =>
          refine' Exs.nilE (fun p hp => by cases hp) ?_
          have q : (officesD cs)[i]? = some (officeD i (cs.getD i 0)) := range_map_get (f := fun i => officeD i (cs.getD i 0)) hi
          have := take_map (f := id) q
          simp only [List.map_id, id] at this
          rw [this]
    case hR =>
      refine' Exs.freeze ?_
      walk_at "ret"
      rw [enumD_length, List.length_map, List.take_of_length_le]
      simp [officesD]
end

section
open PySem PySem.W PyProof.Rows PySem.Calls PySem.Builtin.Re
set_option Elab.async false
set_option linter.unusedVariables false
set_option maxRecDepth 100000
set_option maxHeartbeats 4000000
def spF (k : Int) : Str := Txt.mul (Str.ofString " ") k
theorem spF_ok : ∀ j : Fin 24, MulOk (Str.ofString " ") (j.val : Int) ∧ (spF (j.val : Int)).length ≤ 100 ∧ (spF (j.val : Int)).cps.contains 92 = false ∧ (spF (j.val : Int)).cps.toList = List.replicate j.val 32 := by
  unfold MulOk
  decide +kernel
theorem spF_ok' {k : Int} (h0 : 0 ≤ k) (h1 : k ≤ 23) : MulOk (Str.ofString " ") k ∧ (spF k).length ≤ 100 ∧ (spF k).cps.contains 92 = false ∧ (spF k).cps.toList = List.replicate k.toNat 32 := by
  have := spF_ok ⟨k.toNat, by omega⟩
  simp only [Int.toNat_of_nonneg h0] at this
  exact this
section
variable {prog : Program} {w : World} {K : Frag} {n : Nat} {env : Env} {σ : Sg} {o e : Expr} {pos apos : Pos}
theorem Ev.subR {x pad : Str} {a b : Expr} {pa c : Addr} {vs items : Array Value} {nn : Nat} (ho : Ev prog w K n env σ o (.adr pa)) (ha : Ev prog w K n env σ a (.str pad)) (hb : Ev prog w K n env σ b (.str x))
    (hp : K.lookup pa = some { cls := .type "re.Pattern", data := .fields vs }) (h6 : reRawNat (vs.getD 6 .none) = 0) (h2 : reRawNat (vs.getD 2 .none) = 0) (h5 : vs.getD 5 .none = .ref c)
    (hc : K.lookup c = some { cls := .type "tuple", data := .seq items nn }) (hcode : (items.map reRawOf).map Int.toNat = C) (hx : x.cps.size ≤ 1000) (hpad : pad.length ≤ 100) (h92 : pad.cps.contains 92 = false)
    (hbase : attributeBase o "sub" env (eval o env) = eval o env := by rfl)
    (hfew : ((backTo pos (starEach [a, b] env)).all (fun x => !x.1) && (backToKw pos (keywordEach [] env)).all (fun x => x.1.isSome)
      && decide (([a, b] : List Expr).length + ([] : List Keyword).length + (if ([] : List Keyword).isEmpty then 0 else 1) < 30)) = true := by rfl)
    (hline : (apos.endLine == pos.line) = true := by rfl)
    (he : starEach [a, b] env = (false, eval a env) :: starEach [b] env := by rfl)
    (he2 : starEach [b] env = (false, eval b env) :: starEach [] env := by rfl)
    (hplain : (backTo pos (starEach [b] env)).any (·.1) = false := by rfl) :
    Ev prog w K n env σ (.Call (.Attribute o "sub" apos) [a, b] [] pos) (.str (subF pad x)) :=
  Ev.meth ho (fun g v s G i S => Of.adr hp rfl rfl G i S) plainAttrs_pattern slot_sub type_sub (Evs.cons ha (Evs.cons hb Evs.nil he2) he) (OpV.sub hp h6 h2 h5 hc hcode hx hpad h92) hbase hfew hline he hplain
end
theorem fn_indent (w : World) (n : Nat) (x : Str) (k : Int) (h0 : 0 ≤ k) (h1 : k ≤ 23) (hx : x.cps.size ≤ 1000) : Fn Challenge.pw_xe0004_01 w (hd.heap_39 w.params) (n + 1) 44 [.str x, .int k] (.str (subF (spF k) x)) := by
  refine' Fn.of_defB (names := [Str.ofString "s", Str.ofString "indent"]) ?ho ?hcd ?hn ?hl ?hb ?hloc ?hcell ?hco ?hgen ?hk ?h
  case ho => exact rfl
  case hcd => exact rfl
  case hn => decide
  case hl => rfl
  case hb =>
    intro s X vs hv
    rcases vs with _ | ⟨a, _ | ⟨b, _ | ⟨c, vs⟩⟩⟩ <;> first | (exfalso; simp at hv; done) | exact binds_K X rfl (T := 37) (by exact rfl) rfl rfl rfl
  case hloc => decide
  case hcell => decide
  case hco => rfl
  case hgen => rfl
  case hk => rfl
  intro s₀ g₀ L
  dsimp only [List.zip_cons_cons, List.zip_nil_right]
  obtain ⟨m1, m2, m3, _⟩ := spF_ok' h0 h1
  refine' Exs.ret (Ev.subR (pa := 36) (c := 35) ?s1 ?s2 ?s3 ?s4 ?s5 ?s6 ?s7 ?s8 ?s9 hx m2 m3)
  case s1 =>
    refine' Ev.top (v := Value.ref 36) (d := D.adr 36) ?a1 ?b1
    case a1 => exact rfl
    case b1 => intro g G; exact Is.adr _
  case s2 =>
    refine' Ev.bin ?l ?r (Op2.mulIS m1)
    case l => walk_at "ev"
    case r => walk_at "ev"
  case s3 => walk_at "ev"
  case s4 => exact rfl
  case s5 => exact rfl
  case s6 => exact rfl
  case s7 => exact rfl
  case s8 => exact rfl
  case s9 => decide +kernel
end

section
open PySem PySem.W PyProof.Rows PySem.Calls PySem.Builtin.Re
set_option Elab.async false
set_option linter.unusedVariables false
set_option maxRecDepth 100000
set_option maxHeartbeats 4000000
def oD : Option Int → D
  | none => .none
  | some h => .int (3600 * h)
def clocksF (os : List (Option Int)) : List Int := os.filterMap id ++ [8]
def atI (os : List (Option Int)) (i : Nat) : Nat := ((os.take i).filterMap id).length
def kI (os : List (Option Int)) (i : Nat) : Int := ((clocksF os).getD (atI os i + 1) 0 - (clocksF os).getD (atI os i) 0).fmod 24
def wsI (os : List (Option Int)) : Nat → List (Option Nat)
  | 0 => []
  | i + 1 => match os[i]? with
    | some (some _) => (wsI os i ++ [some 0]).map (Option.map (· + (kI os i).toNat))
    | _ => wsI os i ++ [none]
theorem kI_bounds (os : List (Option Int)) (i : Nat) : 0 ≤ kI os i ∧ kI os i ≤ 23 := by
  unfold kI
  have h0 := Int.fmod_nonneg_of_pos ((clocksF os).getD (atI os i + 1) 0 - (clocksF os).getD (atI os i) 0) (b := 24) (by decide)
  have h1 := Int.fmod_lt_of_pos ((clocksF os).getD (atI os i + 1) 0 - (clocksF os).getD (atI os i) 0) (b := 24) (by decide)
  omega
theorem wsI_len (os : List (Option Int)) : ∀ i, (wsI os i).length = i
  | 0 => rfl
  | i + 1 => by
    rw [wsI]
    split
    · rw [List.length_map, List.length_append, wsI_len os i]; rfl
    · rw [List.length_append, wsI_len os i]; rfl
theorem wsI_le (os : List (Option Int)) : ∀ i, ∀ w, some w ∈ wsI os i → w ≤ 23 * i
  | 0, w, h => by cases h
  | i + 1, w, h => by
    rw [wsI] at h
    have hk := kI_bounds os i
    split at h
    · obtain ⟨o, ho, e⟩ := List.mem_map.mp h
      cases o with
      | none => cases e
      | some v =>
        have e : v + (kI os i).toNat = w := Option.some.inj e
        rcases List.mem_append.mp ho with q | q
        · have := wsI_le os i v q; omega
        · have : v = 0 := by simpa using q
          omega
    · rcases List.mem_append.mp h with q | q
      · have := wsI_le os i w q; omega
      · simp at q
theorem note_size (os : List (Option Int)) {i : Nat} (hi : i ≤ 4) : (noteText (wsI os i)).cps.size ≤ 404 := by
  show (noteL (wsI os i)).toArray.size ≤ 404
  rw [List.size_toArray]
  have := noteL_len (wsI os i) (wsI_le os i)
  rw [wsI_len] at this
  have h2 : i * (23 * i + 9) ≤ 4 * (23 * 4 + 9) := Nat.mul_le_mul hi (by omega)
  omega
theorem note_blank (ws : List (Option Nat)) : noteText ws ++ Str.ofString "\n" = noteText (ws ++ [none]) := by
  apply congrArg Str.mk
  show (noteL ws).toArray ++ (Str.ofString "\n").cps = (noteL (ws ++ [none])).toArray
  have e : (Str.ofString "\n").cps = #[10] := by decide +kernel
  have e2 : noteL (ws ++ [none]) = noteL ws ++ [10] := by unfold noteL; rw [List.flatMap_append]; rfl
  rw [e, e2]
  simp
theorem note_mark (ws : List (Option Nat)) : noteText ws ++ Str.ofString "########\n" = noteText (ws ++ [some 0]) := by
  apply congrArg Str.mk
  show (noteL ws).toArray ++ (Str.ofString "########\n").cps = (noteL (ws ++ [some 0])).toArray
  have e : (Str.ofString "########\n").cps = #[35, 35, 35, 35, 35, 35, 35, 35, 10] := by decide +kernel
  have e2 : noteL (ws ++ [some 0]) = noteL ws ++ [35, 35, 35, 35, 35, 35, 35, 35, 10] := by unfold noteL; rw [List.flatMap_append]; rfl
  rw [e, e2]
  simp
theorem atI_succ_some {os : List (Option Int)} {i : Nat} {h : Int} (e : os[i]? = some (some h)) : atI os (i + 1) = atI os i + 1 := by
  unfold atI; rw [List.take_add_one, e]; simp
theorem atI_succ_none {os : List (Option Int)} {i : Nat} (e : os[i]? = some none) : atI os (i + 1) = atI os i := by
  unfold atI; rw [List.take_add_one, e]; simp
theorem clocks_len (os : List (Option Int)) : (clocksF os).length = atI os os.length + 1 := by
  unfold clocksF atI
  rw [List.length_append, List.take_length]; rfl
theorem atI_mono (os : List (Option Int)) {i j : Nat} (h : i ≤ j) : atI os i ≤ atI os j := by
  unfold atI
  have : os.take i <+: os.take j := List.take_prefix_take_left h
  exact (this.sublist.filterMap id).length_le
theorem fn_notes (w : World) (n : Nat) (os : List (Option Int)) (hl : os.length ≤ 4) : Fn Challenge.pw_xe0004_01 w (hd.heap_39 w.params) (n + 1 + 1) 97 [.lst (os.map oD)] (.str (noteText (wsI os os.length))) := by
  refine' Fn.of_def (names := [Str.ofString "told"]) ?ho ?hcd ?hn ?hl ?hb ?hloc ?hcell ?hco ?hgen ?hk ?h
  walk_at "fn"
  have hcl := clocks_len os
  have hat : atI os os.length ≤ os.length := by
    unfold atI; rw [List.take_length]; exact List.length_filterMap_le _ _
  refine' Exs.assign (d := D.lst ((clocksF os).map D.int)) ?ca ?cb
  case ca =>
    refine' Ev.eq (Ev.bin (a := D.lst ((os.filterMap id).map D.int)) ?c1 ?c2 (Op2.addL ?c3)) ?c4
    case c1 =>
      refine' Ev.eq (Ev.comp (σ' := []) (fun d => !d.isNone) (fun d => D.int (d.toI.fdiv 3600)) (fun d => bd1 (Str.ofString "seconds") d) ?hI ?hclos ?hcap ?hsz ?hA ?hT ?hE ?hb) ?e
      case hI =>
        refine' Itb.list ?q
        case q => walk_at "ev"
      walk_at "comp"
      case hsz => rw [List.length_map]; exact Nat.le_trans hl (by decide)
      case hcap => exact Caps.none
      case hT =>
        intro C d hd
        refine' Tes.one ?_
        dsimp only [bd1]
        refine' Te.cmp ?l1 ?l2 Op2.isNotN
        case l1 => walk_at "ev"
        case l2 => walk_at "ev"
      case hE =>
        intro C d hd hpd
        dsimp only [bd1]
        obtain ⟨o, ho, rfl⟩ := List.mem_map.mp hd
        cases o with
        | none => cases hpd
        | some h =>
          show Ev _ _ _ _ _ ((Str.ofString "seconds", D.int (3600 * h)) :: _) _ (D.int ((3600 * h).fdiv 3600))
          walk_at "ev"
      case hb => intro d hd p hp; cases hp
      case e =>
        congr 1
        clear hl hcl hat
        induction os with
        | nil => rfl
        | cons o os ih =>
          cases o with
          | none => exact ih
          | some h =>
            show D.int ((3600 * h).fdiv 3600) :: _ = D.int h :: _
            rw [Int.mul_fdiv_cancel_left h (by decide)]
            exact congrArg (D.int h :: ·) ih
    case c2 =>
      refine' Ev.list (ds := [D.int 8]) (Evs.cons ?w1 Evs.nil) ?w2
      case w1 => walk_at "ev"
      case w2 => show 1 ≤ sizeLine; decide
    case c3 =>
      rw [List.length_map]
      have h1 : (os.filterMap id).length ≤ os.length := List.length_filterMap_le _ _
      exact Nat.le_trans (m := 5) (by show _ + 1 ≤ 5; omega) (by decide)
    case c4 => unfold clocksF; rw [List.map_append]; rfl
  case cb =>
  walk_at "assign"
  walk_at "assign"
  refine' Exs.forW (ds := os.map oD) (fun i => [(Str.ofString "at", D.int (atI os i)), (Str.ofString "notes", D.str (noteText (wsI os i))), (Str.ofString "clocks", D.lst ((clocksF os).map D.int))]) (fun _ => none) (fun i => bd1 (Str.ofString "seconds") ((os.map oD).getD i .none)) ?hI ?h0 ?hω ?hA ?hB ?hR
  case hI =>
    refine' Itb.list ?q
    case q => walk_at "ev"
  case h0 =>
    intro p hp
    rcases List.mem_cons.mp hp with rfl | hp
    · show (Str.ofString "at", D.int 0) ∈ _
      walk_at "mem"
    · rcases List.mem_cons.mp hp with rfl | hp
      · show (Str.ofString "notes", D.str (noteText [])) ∈ _
        rw [show noteText [] = Str.ofString "" by decide +kernel]
        walk_at "mem"
      · rw [List.mem_singleton] at hp; subst hp; walk_at "mem"
  case hω => rfl
  case hA =>
    intro i d hd
    have e : (os.map oD).getD i .none = d := by rw [List.getD_eq_getElem?_getD, hd]; rfl
    rw [e]
    exact Asg.name
  case hB =>
    intro g₁ i d hd
    have e : (os.map oD).getD i .none = d := by rw [List.getD_eq_getElem?_getD, hd]; rfl
    rw [e]
    rw [List.getElem?_map] at hd
    obtain ⟨o, ho, rfl⟩ := Option.map_eq_some_iff.mp hd
    have hi : i < os.length := (List.getElem?_eq_some_iff.mp ho).1
    have hsz := note_size os (i := i) (by omega)
    dsimp only [bd1]
    cases o with
    | none =>
      refine' Exs.ifYes (σ' := [(Str.ofString "at", D.int (atI os (i + 1))), (Str.ofString "notes", D.str (noteText (wsI os (i + 1)))), (Str.ofString "clocks", D.lst ((clocksF os).map D.int))]) (ω' := none) (Te.eq (Te.cmp ?t1 ?t2 Op2.isN) ?t3) ?b1 (Exs.nilW fun p hp => hp)
      case t1 => walk_at "ev"
      case t2 => walk_at "ev"
      case t3 => rfl
      case b1 =>
        refine' Exs.assign (d := D.str (noteText (wsI os i) ++ Str.ofString "\n")) ?n1 ?n2
        case n1 =>
          refine' Ev.bin ?m1 ?m2 (Op2.addS ?m3)
          case m1 => walk_at "ev"
          case m2 => walk_at "ev"
          case m3 =>
            have h1 : (Str.ofString "\n").length = 1 := by decide +kernel
            rw [h1]
            exact Nat.le_trans (m := 405) (Nat.add_le_add_right hsz 1) (by decide)
        case n2 =>
          refine' Exs.nilW ?_
          have e2 : wsI os (i + 1) = wsI os i ++ [none] := by rw [wsI, ho]
          rw [atI_succ_none ho, e2, ← note_blank]
          intro p hp
          rcases List.mem_cons.mp hp with rfl | hp
          · walk_at "mem"
          · rcases List.mem_cons.mp hp with rfl | hp
            · walk_at "mem"
            · rw [List.mem_singleton] at hp; subst hp; walk_at "mem"
    | some h =>
      refine' Exs.ifElse (σ' := [(Str.ofString "at", D.int (atI os (i + 1))), (Str.ofString "notes", D.str (noteText (wsI os (i + 1)))), (Str.ofString "clocks", D.lst ((clocksF os).map D.int))]) (ω' := none) (Te.eq (Te.cmp ?t1 ?t2 Op2.isN) ?t3) ?b1 (Exs.nilW fun p hp => hp)
      case t1 => walk_at "ev"
      case t2 => walk_at "ev"
      case t3 => rfl
      case b1 =>
        have ha : atI os i + 1 < (clocksF os).length := by
          have := atI_mono os (i := i + 1) (j := os.length) hi
          rw [atI_succ_some ho] at this
          omega
        obtain ⟨k0, k1⟩ := kI_bounds os i
        obtain ⟨_, _, _, m4⟩ := spF_ok' k0 k1
        have hmark : (noteText (wsI os i) ++ Str.ofString "########\n").cps.size ≤ 1000 := by
          rw [Str.cps_append, Array.size_append]
          have h1 : (Str.ofString "########\n").cps.size = 9 := by decide +kernel
          omega
        refine' Exs.assign (d := D.str (subF (spF (kI os i)) (noteText (wsI os i) ++ Str.ofString "########\n"))) ?n1 ?n2
        case n1 =>
          refine' Ev.call ?p1 ?p2 ?p3 (fn_indent w n _ (kI os i) k0 k1 hmark)
          case p1 => exact rfl
          case p2 => exact ⟨_, _, _, _, rfl⟩
          case p3 =>
            refine' Evs.cons ?q1 (Evs.cons ?q2 Evs.nil)
            case q1 =>
              refine' Ev.bin ?m1 ?m2 (Op2.addS ?m3)
              case m1 => walk_at "ev"
              case m2 => walk_at "ev"
              case m3 =>
                have h1 : (Str.ofString "########\n").length = 9 := by decide +kernel
                rw [h1]
                exact Nat.le_trans (m := 413) (Nat.add_le_add_right hsz 9) (by decide)
            case q2 =>
              refine' Ev.bin (a := D.int ((clocksF os).getD (atI os i + 1) 0 - (clocksF os).getD (atI os i) 0)) ?r1 ?r2 (Op2.modI (by decide))
              case r1 =>
                refine' Ev.bin ?u1 ?u2 Op2.subI
                case u1 =>
                  refine' Ev.item (ds := (clocksF os).map D.int) (k := (atI os i : Int) + 1) ?v ?j ?k1 ?k2 ?k3
                  case v => walk_at "ev"
                  case j => walk_at "ev"
                  case k1 => omega
                  case k2 => omega
                  case k3 =>
                    have : ((atI os i : Int) + 1).toNat = atI os i + 1 := by omega
                    rw [this]
                    exact getD_int ha
                case u2 =>
                  refine' Ev.item (ds := (clocksF os).map D.int) (k := (atI os i : Int)) ?v ?j ?k1 ?k2 ?k3
                  case v => walk_at "ev"
                  case j => walk_at "ev"
                  case k1 => omega
                  case k2 => omega
                  case k3 => exact getD_int (Nat.lt_of_succ_lt ha)
              case r2 => walk_at "ev"
        case n2 =>
          refine' Exs.augName (d₀ := D.int (atI os i)) (d := D.int 1) (d₁ := D.int (atI os (i + 1))) ?z1 ?z2 ?z3 ?z4
          case z1 => walk_at "mem"
          case z2 => walk_at "ev"
          case z3 =>
            rw [atI_succ_some ho]
            intro A s g E v u P hv hu
            cases hv; cases hu
            exact iadd_int (Post.here P (.int _ _) _)
          case z4 =>
            refine' Exs.nilW ?_
            have e2 : wsI os (i + 1) = (wsI os i ++ [some 0]).map (Option.map (· + (kI os i).toNat)) := by rw [wsI, ho]
            rw [e2, ← subF_note m4, ← note_mark]
            intro p hp
            rcases List.mem_cons.mp hp with rfl | hp
            · walk_at "mem"
            · rcases List.mem_cons.mp hp with rfl | hp
              · walk_at "mem"
              · rw [List.mem_singleton] at hp; subst hp; walk_at "mem"
  case hR =>
    rw [List.length_map]
    walk_at "ret"
end

section
open PySem PySem.W PyProof.Rows PySem.Calls PySem.Builtin.Re
set_option Elab.async false
set_option linter.unusedVariables false
set_option maxRecDepth 100000
set_option maxHeartbeats 4000000
def rowsF (a : Int) : List Int := ((List.range 24).filter fun i : Nat => decide ((((i : Int) - a).fmod 24) < 8)).map fun i : Nat => (i : Int)
def rowD : Option Nat → D
  | none => .none
  | some w => .lst ((rowsF (w : Int)).map D.int)
section
variable {prog : Program} {w : World} {K : Frag} {n : Nat} {env : Env} {σ : Sg} {o e : Expr} {pos apos : Pos}
theorem Ev.split {x y : Str} {a : Expr} (ho : Ev prog w K n env σ o (.str x)) (ha : Ev prog w K n env σ a (.str y)) (hy : (y.length == 0) = false) (hx : x.length + 2 ≤ sizeLine)
    (hbase : attributeBase o "split" env (eval o env) = eval o env := by rfl)
    (hfew : ((backTo pos (starEach [a] env)).all (fun x => !x.1) && (backToKw pos (keywordEach [] env)).all (fun x => x.1.isSome)
      && decide (([a] : List Expr).length + ([] : List Keyword).length + (if ([] : List Keyword).isEmpty then 0 else 1) < 30)) = true := by rfl)
    (hline : (apos.endLine == pos.line) = true := by rfl)
    (he : starEach [a] env = (false, eval a env) :: starEach [] env := by rfl) :
    Ev prog w K n env σ (.Call (.Attribute o "split" apos) [a] [] pos) (.lst ((Txt.split x y).map D.str)) :=
  Ev.meth ho (fun g v s _ => Of.str g v s) F.plainAttrs_str F.slot_str_split F.type_str_split (Evs.cons ha Evs.nil he) (OpV.split hy hx) hbase hfew hline he rfl
theorem Ev.sliceToG {k : Int} {value up : Expr} {ds : List D} {p : Pos} (hv : Ev prog w K n env σ value (.lst ds)) (hi : Ev prog w K n env σ up (.int k)) (hl : ds.length ≤ sizeLine) : Ev prog w K n env σ (.Subscript value (.Slice Option.none (some up) Option.none p) pos) (.lst (ds.take (cut k ds.length))) := fun A s g E P => by
  rw [eval_Subscript]
  refine wpAny_bind (wpAny_mono (hv A s g E P) (fun o s₁ h₁ => wpAny_bind (wpAny_holding (wpAny_Slice (wpAny_evalPart_none (wpAny_evalPart_some (wpAny_mono (hi A s₁ _ E (P.next h₁.1)) (fun i s₂ h₂ => ?_) fun _ _ x => x))))))  fun _ _ x => x)
  have P2 := (P.next h₁.1).next h₂.1
  have ho := (P.next h₁.1).up h₁.2 s₂.heap
  have k2 := h₁.1.trans h₂.1
  cases h₂.2 with
  | int _ tk =>
  cases ho with
  | @lst a na vs _ ha ra =>
  have hl' : s₂.heap.IsList a vs.toArray := ⟨_, P2.sub _ _ ha, rfl, _, rfl⟩
  rw [evalPart_none]
  refine wpAny_pure (wpAny_bind (wpAny_standAt (wpAny_bind ?_)))
  have hT : Shared.TypeIs { s₂ with heap := s₂.heap.push { cls := .type "slice", data := .fields #[.none, .int k tk, .none] } } (.ref a) "list" := (hl'.push _).typeIs
  rw [getitemInPython_of_ne hT.not_modules]
  refine wpAny_bind (wpAny_specialOf hT list_getitem_lookup ?_)
  refine wpAny_pure (wpAny_bind ?_)
  show wpAny _ _ (operate _ (getItem _ _)) _ _ _
  refine wpAny_operating (wpAny_getItem_list_slice (hl'.push _) (Heap.IsSliceOf.new ..) .none (.int k tk) .none (by simp) ?_ (by rw [List.size_toArray, ra.length]; exact hl))
  refine wpAny_bind (wpAny_letTemporaryGo (wpAny_pure ?_))
  rw [slicePick_cut, ra.length, Heap.size_push]
  have k3 : KL env.locals s₂ { s₂ with heap := (s₂.heap.push { cls := .type "slice", data := .fields #[.none, .int k tk, .none] }).push { cls := .type "list", data := .seq (vs.take (cut k ds.length)).toArray } } := KL.of_keep (t := s₂.toks) fun b o e => Heap.get?_push_of_some _ (Heap.get?_push_of_some _ e)
  refine Post.trans P h₁.1 (Post.trans (P.next h₁.1) h₂.1 ⟨k3, .lst (n := 0) ?_ ((P2.ups ra _).take _)⟩)
  rw [grow_new (size_none (Nat.le_succ _))]
  have := Heap.get?_push_size (s₂.heap.push { cls := .type "slice", data := .fields #[.none, .int k tk, .none] }) (o := { cls := .type "list", data := .seq (vs.take (cut k ds.length)).toArray }) rfl
  rw [Heap.size_push] at this
  exact this
end
theorem fn_noted (w : World) (n : Nat) (ws : List (Option Nat)) (hl : ws.length ≤ 4) (hw : ∀ v, some v ∈ ws → v < 100) : Fn Challenge.pw_xe0004_01 w (hd.heap_39 w.params) (n + 1) 102 [.str (noteText ws)] (.lst (ws.map rowD)) := by
  refine' Fn.of_defC (x := Str.ofString "notes") ?ho ?hcd ?hb ?hkind ?hco ?hgen ?hk ?h
  case ho => exact rfl
  case hcd => exact rfl
  case hb => exact fun _ => rfl
  case hkind => exact .inl (by decide)
  case hco => rfl
  case hgen => rfl
  case hk => rfl
  intro s₀ g₀ L
  have hsz : (noteText ws).length ≤ 4 * (100 + 9) := by
    show (noteL ws).toArray.size ≤ _
    rw [List.size_toArray]
    have := noteL_len (b := 100) ws fun v hv => Nat.le_of_lt (hw v hv)
    exact Nat.le_trans this (Nat.mul_le_mul_right _ hl)
  walk_at "own"
  refine' Exs.forW (ds := (ws.map lineS).map D.str) (fun i => []) (fun i => some (Str.ofString "table", (ws.take i).map rowD)) (fun i => bd1 (Str.ofString "line") (D.str (lineS (ws.getD i none)))) ?hI ?h0 ?hω ?hA ?hB ?hR
  case hI =>
    refine' Itb.list (Ev.eq (Ev.sliceToG (k := -1) (ds := ((ws.map lineS) ++ [(⟨#[]⟩ : Str)]).map D.str) ?q1 ?q2 ?q3) ?q4)
    case q1 =>
      refine' Ev.eq (Ev.split (x := noteText ws) (y := Str.ofString "\n") ?r1 ?r2 (by decide +kernel) ?r3) ?r4
      case r1 => walk_at "ev"
      case r2 => walk_at "ev"
      case r3 => exact Nat.le_trans (m := 438) (Nat.add_le_add_right hsz 2) (by decide)
      case r4 => rw [split_note]
    case q2 =>
      refine' Ev.eq ?z1 ?z2
      case z1 => walk_at "ev"
      case z2 => rfl
    case q3 => rw [List.length_map, List.length_append, List.length_map]; exact Nat.le_trans (m := 5) (Nat.add_le_add_right hl 1) (by decide)
    case q4 =>
      congr 1
      have e : cut (-1) (((ws.map lineS) ++ [(⟨#[]⟩ : Str)]).map D.str).length = (ws.map lineS).length := by
        unfold cut
        rw [List.length_map, List.length_append]
        simp
        omega
      rw [e, List.map_append, List.take_left' (by simp)]
  case h0 => intro p hp; cases hp
  case hω => rfl
  case hA =>
    intro i d hd
    have e : d = D.str (lineS (ws.getD i none)) := by
      rw [List.getElem?_map, List.getElem?_map] at hd
      rw [List.getD_eq_getElem?_getD]
      cases q : ws[i]? with
      | none => rw [q] at hd; cases hd
      | some o => rw [q] at hd; cases hd; rfl
    rw [e]
    exact Asg.name
  case hB =>
    intro g₁ i d hd
    have hex : ∃ o, ws[i]? = some o := by
      rw [List.getElem?_map, List.getElem?_map] at hd
      cases q : ws[i]? with
      | none => rw [q] at hd; cases hd
      | some o => exact ⟨o, rfl⟩
    obtain ⟨o, ho⟩ := hex
    have hi : i < ws.length := (List.getElem?_eq_some_iff.mp ho).1
    have eo : ws.getD i none = o := by rw [List.getD_eq_getElem?_getD, ho]; rfl
    rw [eo]
    have et : (ws.take (i + 1)).map rowD = (ws.take i).map rowD ++ [rowD o] := take_map ho
    have hlen : ((ws.take i).map rowD).length < sizeLine := by
      rw [List.length_map, List.length_take]
      exact Nat.lt_of_le_of_lt (m := 4) (by omega) (by decide)
    have hlo : (lineS o).length ≤ 108 := by
      cases o with
      | none => exact Nat.zero_le _
      | some v =>
        have := hw v (List.mem_of_getElem? ho)
        show (List.replicate v 32 ++ List.replicate 8 35).toArray.size ≤ _
        simp; omega
    dsimp only [bd1]
    refine' Exs.assignC (d := D.int ((lineS o).length - 8)) ?a1 ?a2
    case a1 =>
      refine' Ev.bin (a := D.int (lineS o).length) ?b1 ?b2 Op2.subI
      case b1 =>
        refine' Ev.callB ?c1 ?c2 ?c3 (OpV.lenS ?c4)
        case c1 => exact rfl
        case c2 => exact rfl
        case c3 => walk_at "evs"
        case c4 => omega
      case b2 => walk_at "ev"
    case a2 =>
    cases o with
    | none =>
      refine' Exs.ifYes (σ' := []) (ω' := some (Str.ofString "table", (ws.take (i + 1)).map rowD)) (Te.eq (Te.cmp ?t1 ?t2 Op2.eqS) ?t3) ?b1 Exs.nil
      case t1 => walk_at "ev"
      case t2 => walk_at "ev"
      case t3 => decide +kernel
      case b1 =>
        refine' Exs.append (d := D.none) ?k1 hlen ?k3
        case k1 => walk_at "ev"
        case k3 => exact Exs.nilE (fun p hp => by cases hp) (by rw [et]; rfl)
    | some v =>
      have hv : v < 100 := hw v (List.mem_of_getElem? ho)
      have hlv : ((lineS (some v)).length : Int) - 8 = (v : Int) := by
        have : (lineS (some v)).length = v + 8 := by
          show (List.replicate v 32 ++ List.replicate 8 35).toArray.size = _
          simp
        rw [this]; omega
      rw [hlv]
      refine' Exs.ifElse (σ' := []) (ω' := some (Str.ofString "table", (ws.take (i + 1)).map rowD)) (Te.eq (Te.cmp ?t1 ?t2 Op2.eqS) ?t3) ?b1 Exs.nil
      case t1 => walk_at "ev"
      case t2 => walk_at "ev"
      case t3 =>
        have : lineS (some v) ≠ Str.ofString "" := by
          intro q
          have := congrArg Str.length q
          rw [show (Str.ofString "").length = 0 by decide +kernel] at this
          omega
        simpa using this
      case b1 =>
        refine' Exs.ifYes (σ' := []) (ω' := some (Str.ofString "table", (ws.take (i + 1)).map rowD)) (Te.eq (Te.cmp ?t1 ?t2 Op2.eqS) ?t3) ?b1 (Exs.nilW fun p hp => hp)
        case t1 => walk_at "ev"
        case t2 =>
          refine' Ev.bin ?u1 ?u2 (Op2.addS ?u3)
          case u1 =>
            refine' Ev.bin ?v1 ?v2 (Op2.mulSI (mulOk_sp hv))
            case v1 => walk_at "ev"
            case v2 => walk_at "ev"
          case u2 => walk_at "ev"
          case u3 =>
            rw [(mul_sp ⟨v, hv⟩).2, show (Str.ofString "########").length = 8 by decide +kernel]
            exact Nat.le_trans (m := 108) (by show v + 8 ≤ 108; omega) (by decide)
        case t3 => rw [line_made hv]; simp
        case b1 =>
          refine' Exs.append (d := rowD (some v)) ?k1 hlen ?k3
          case k1 =>
            refine' Ev.eq (Ev.comp (σ' := [(Str.ofString "ahead", D.int (v : Int))]) (fun d => decide (((d.toI - (v : Int)).fmod 24) < 8)) id (fun d => bd1 (Str.ofString "hour") d) ?hI ?hclos ?hcap ?hsz ?hA ?hT ?hE ?hb) ?e
            case hI => walk_at "range"
            walk_at "comp"
            case hcap => exact Caps.one Sg.hd rfl rfl fun C => ⟨rfl, rfl⟩
            case hT =>
              intro C d hd
              obtain ⟨i, hi, rfl⟩ := upto_mem hd
              refine' Tes.one ?_
              dsimp only [bd1, id]
              walk_at "te"
            case hE =>
              intro C d hd _
              dsimp only [bd1, id]
              refine' Ev.name ?_
              walk_at "mem"
            case hb =>
              intro d hd p hp
              rw [List.mem_singleton] at hp; subst hp
              dsimp only [bd1]
              walk_at "mem"
            case e =>
              show _ = D.lst ((rowsF (v : Int)).map D.int)
              unfold upto rowsF
              rw [filt_enc (p := fun i : Nat => decide ((((i : Int) - (v : Int)).fmod 24) < 8)) (f2 := fun i : Nat => D.int (i : Int)) (fun _ _ => rfl) (fun _ _ => rfl), List.map_map]
              rfl
          case k3 => exact Exs.nilE (fun p hp => by cases hp) (by rw [et])
  case hR =>
    refine' Exs.freeze ?_
    walk_at "ret"
    rw [List.length_map, List.length_map, List.take_length]
end

section
open PySem PySem.W PyProof.Rows PySem.Calls PySem.Builtin.Re
set_option Elab.async false
set_option linter.unusedVariables false
set_option maxRecDepth 100000
set_option maxHeartbeats 4000000
abbrev Of2 := Int × Int
def o2D (p : Of2) : D := .tup [.int p.1, .int p.2]
def optF (p : Of2) : Option Int := if p.2 = 7 then none else some p.1
def pD : Option Int → D
  | none => .none
  | some h => .lst ((noonF h).map D.int)
def tabF (h : Int) : List Int := ((List.range 24).filter fun i : Nat => (noonF h).getD i 0 == 8).map fun i : Nat => (i : Int)
def rD (h : Int) : D := .lst ((tabF h).map D.int)
def tD : Option Int → D
  | none => .none
  | some h => rD h
def hsF (os : List Of2) : List Int := (os.map optF).filterMap id
def togF (hs : List Int) : List Int := (tabF (hs.headD 0)).filter fun x => hs.all fun h => (tabF h).any (· == x)
def pF (a b : Int) : Int := (((tabF a).filter fun x => (tabF b).any (· == x)).length : Nat)
def pairsF (hs : List Int) : List Int := hs.flatMap fun a => hs.map fun b => pF a b
def ssF (os : List Of2) : List Int := (os.filter fun p => decide (p.2 < 7)).map fun p => (8 - p.1).fmod 24
structure Facts (os : List Of2) : Prop where
  len : os.length = 4
  hb : ∀ p ∈ os, -23 ≤ p.1 ∧ p.1 ≤ 23 ∧ 0 ≤ p.2 ∧ p.2 ≤ 7
  ne : hsF os ≠ []
  gaps : ∃ M, M ∈ gapsF (ringF (ssF os)) ∧ (∀ a ∈ gapsF (ringF (ssF os)), a ≤ M) ∧ (∀ a ∈ gapsF (ringF (ssF os)), -60 ≤ a ∧ a ≤ 60) ∧ (togF (hsF os)).Perm (runF (openF (ringF (ssF os)) M) M)
  sorted : (togF (hsF os)).Pairwise (· ≤ ·)
  few : ((togF (hsF os)).length : Int) ∈ pairsF (hsF os)
  least : ∀ a ∈ pairsF (hsF os), ((togF (hsF os)).length : Int) ≤ a
  noted : (wsI (os.map optF) (os.map optF).length).map rowD = (os.map optF).map tD

def intsOf : D → List Int
  | .lst ds => ds.map D.toI
  | _ => []
theorem intsOf_rD (h : Int) : intsOf (rD h) = tabF h := by
  show ((tabF h).map D.int).map D.toI = _
  rw [List.map_map]
  exact (List.map_congr_left fun _ _ => rfl).trans (List.map_id _)
theorem ok_ints (n : Nat) (l : List Int) : D.ok (n + 1) (.lst (l.map D.int)) = true := by
  show (l.map D.int).all (D.ok n) = true
  rw [List.all_eq_true]
  intro x hx
  obtain ⟨i, _, rfl⟩ := List.mem_map.mp hx
  cases n <;> rfl
theorem ok_list {n : Nat} {ds : List D} (h : ∀ d ∈ ds, D.ok n d = true) : D.ok (n + 1) (.lst ds) = true := by
  show ds.all (D.ok n) = true
  rw [List.all_eq_true]
  exact h
theorem ok_pD (o : Option Int) : D.ok 59 (pD o) = true := by cases o with
  | none => rfl
  | some h => exact ok_ints 58 _
theorem ok_tD (o : Option Int) : D.ok 59 (tD o) = true := by cases o with
  | none => rfl
  | some h => exact ok_ints 58 _
theorem ok_oD (o : Option Int) : D.ok 59 (oD o) = true := by cases o with
  | none => rfl
  | some h => rfl
def bdP (x y : Str) : D → Sg → Sg
  | .tup [a, b] => fun σ => bd1 y b (bd1 x a σ)
  | _ => id
theorem tabF_len (h : Int) : (tabF h).length ≤ 24 := by
  unfold tabF
  rw [List.length_map]
  exact Nat.le_trans (List.length_filter_le _ _) (by simp)
theorem rows_eq : ∀ ts : List (Option Int), ((ts.map tD).filter fun d => !d.isNone).map id = (ts.filterMap id).map rD
  | [] => rfl
  | none :: ts => rows_eq ts
  | some h :: ts => congrArg (rD h :: ·) (rows_eq ts)
theorem none_out : ∀ (hs : List Int) (x : Int), (((hs.map rD).filter fun d => !(intsOf d).any (· == x)).map id).isEmpty = hs.all fun h => (tabF h).any (· == x)
  | [], _ => rfl
  | h :: hs, x => by
    rw [List.map_cons, List.filter_cons, intsOf_rD, List.all_cons]
    cases q : (tabF h).any (· == x) with
    | true => rw [Bool.true_and, ← none_out hs x]; rfl
    | false => rfl
theorem sum_le {α : Type} {k : Nat} {f : α → Nat} : ∀ {l : List α}, (∀ x ∈ l, f x ≤ k) → (l.map f).sum ≤ l.length * k
  | [], _ => by simp
  | a :: l, h => by
    rw [List.map_cons, List.sum_cons, List.length_cons, Nat.add_mul, Nat.one_mul, Nat.add_comm]
    exact Nat.add_le_add (sum_le fun x hx => h x (.tail _ hx)) (h a (.head _))
theorem pairs_eq (hs : List Int) : ((hs.map rD).flatMap fun d => (hs.map rD).map fun d2 => D.int (((intsOf d).filter fun x => (intsOf d2).any (· == x)).length : Nat)) = (pairsF hs).map D.int := by
  unfold pairsF
  rw [List.map_flatMap, List.flatMap_map]
  congr 1
  funext a
  rw [List.map_map, List.map_map]
  congr 1
  funext b
  show D.int _ = D.int (pF a b)
  rw [intsOf_rD, intsOf_rD]
  rfl
theorem fn_law (w : World) (n : Nat) (xs : List Int) (hl : xs.length ≤ 63) (os : List Of2) (hos : officesD (cellsI xs (xs.take 40).length) = os.map o2D) (F : Facts os) : Fn Challenge.pw_xe0004_01 w (hd.heap_39 w.params) (n + 1 + 1 + 1) 112 [.lst (xs.map D.int)] (.bool true) := by
  refine' Fn.of_defC (x := Str.ofString "script") ?ho ?hcd ?hb ?hkind ?hco ?hgen ?hk ?h
  case ho => exact rfl
  case hcd => exact rfl
  case hb => exact fun _ => rfl
  case hkind => exact .inl (by decide)
  case hco => rfl
  case hgen => rfl
  case hk => rfl
  intro s₀ g₀ L
  refine' Exs.assign (d := D.lst (os.map o2D)) ?sa ?sb
  case sa =>
    refine' Ev.eq (Ev.call ?c1 ?c2 ?c3 (fn_offices w (n + 1) xs hl)) ?c4
    case c1 => exact rfl
    case c2 => exact ⟨_, _, _, _, rfl⟩
    case c3 => walk_at "evs"
    case c4 => rw [hos]
  case sb =>
  have hlen := F.len
  refine' Exs.assignComp (σ' := []) (fun _ => true) (fun d => match d with | .tup [.int h, .int e] => offD h e | _ => .none) (bdP (Str.ofString "hours") (Str.ofString "dress")) ?hI ?hclos ?hcap ?hsz ?hA ?hT ?hE ?hb ?hh
  case hI =>
    refine' Itb.list ?q
    case q => walk_at "ev"
  case hclos => exact rfl
  case hcap => exact Caps.none
  case hsz => rw [List.length_map, hlen]; decide
  case hA =>
    intro C d hd
    obtain ⟨p, hp, rfl⟩ := List.mem_map.mp hd
    exact Asg.pair
  case hT => exact fun C d hd => Tes.nil
  case hE =>
    intro C d hd _
    obtain ⟨p, hp, rfl⟩ := List.mem_map.mp hd
    obtain ⟨h1, h2, h3, h4⟩ := F.hb p hp
    dsimp only [bdP, bd1, o2D]
    refine' Ev.call ?c1 ?c2 ?c3 (fn_offset w (n + 1) p.1 p.2 ⟨h1, h2⟩ ⟨h3, h4⟩)
    case c1 => exact rfl
    case c2 => exact ⟨_, _, _, _, rfl⟩
    case c3 =>
      refine' Evs.cons ?z Evs.nil
      case z =>
        refine' Ev.call ?y1 ?y2 ?y3 (fn_text w (n + 1) p.1 p.2 ⟨h1, h2⟩ ⟨h3, h4⟩)
        case y1 => exact rfl
        case y2 => exact ⟨_, _, _, _, rfl⟩
        case y3 => walk_at "evs"
  case hb => exact fun d hd p hp => by cases hp
  have e1 : ((os.map o2D).filter fun _ => true).map (fun d => match d with | .tup [.int h, .int e] => offD h e | _ => .none) = (os.map optF).map oD := by
    rw [filt_enc (p := fun _ => true) (f2 := fun p : Of2 => oD (optF p)) (fun _ _ => rfl) (fun p _ => by
      show offD p.1 p.2 = oD (optF p)
      unfold offD optF
      split <;> rfl), List.filter_eq_self.mpr (fun _ _ => rfl), List.map_map]
    rfl
  rw [e1]
  refine' Exs.ifNot ?i1B ?i2B
  case i1B =>
    refine' Te.cmp ?l1B ?l2B ?l3B
    case l1B => walk_at "ev"
    case l2B =>
      refine' Ev.eq (Ev.comp (σ' := []) (fun _ => true) (fun d => match d with | .tup [.int h, .int e] => offD h e | _ => .none) (bdP (Str.ofString "hours") (Str.ofString "dress")) ?hIB ?hclosB ?hcapB ?hszB ?hAB ?hTB ?hEB ?hbB) (congrArg D.lst e1)
      case hIB =>
        refine' Itb.list ?qB
        case qB => walk_at "ev"
      case hclosB => exact rfl
      case hcapB => exact Caps.none
      case hszB => rw [List.length_map, hlen]; decide
      case hAB =>
        intro C d hd
        obtain ⟨p, hp, rfl⟩ := List.mem_map.mp hd
        exact Asg.pair
      case hTB => exact fun C d hd => Tes.nil
      case hEB =>
        intro C d hd _
        obtain ⟨p, hp, rfl⟩ := List.mem_map.mp hd
        obtain ⟨h1, h2, h3, h4⟩ := F.hb p hp
        dsimp only [bdP, bd1, o2D]
        refine' Ev.ite (c := p.2 == 7) ?t1B ?t2B ?t3B
        case t1B => walk_at "te1"
        case t2B =>
          intro q
          refine' Ev.eq ?u1B ?u2B
          case u1B => walk_at "ev"
          case u2B => unfold offD; rw [if_pos (of_decide_eq_true q)]
        case t3B =>
          intro q
          refine' Ev.eq ?v1B ?v2B
          case v1B => walk_at "ev"
          case v2B => unfold offD; rw [if_neg (of_decide_eq_false q)]
      case hbB => exact fun d hd p hp => by cases hp
    case l3B => exact Op2.neD (ok_list fun d hd => by
      obtain ⟨o, _, rfl⟩ := List.mem_map.mp hd
      exact ok_oD o)
  case i2B =>
  have hlo : (os.map optF).length = 4 := by rw [List.length_map, hlen]
  have hbo : ∀ h : Int, some h ∈ os.map optF → -23 ≤ h ∧ h ≤ 23 := by
    intro h hh
    obtain ⟨p, hp, e⟩ := List.mem_map.mp hh
    obtain ⟨h1, h2, h3, h4⟩ := F.hb p hp
    unfold optF at e
    split at e
    · cases e
    · cases e; exact ⟨h1, h2⟩
  refine' Exs.assignComp (σ' := []) (fun _ => true) (fun d => match d with | .int s => pD (some (s / 3600)) | _ => .none) (bd1 (Str.ofString "seconds")) ?hIC ?hclosC ?hcapC ?hszC ?hAC ?hTC ?hEC ?hbC ?hhC
  case hIC =>
    refine' Itb.list ?qC
    case qC => walk_at "ev"
  case hclosC => exact rfl
  case hcapC => exact Caps.none
  case hszC => rw [List.length_map, hlo]; decide
  case hAC =>
    intro C d hd
    exact Asg.name
  case hTC => exact fun C d hd => Tes.nil
  case hEC =>
    intro C d hd _
    obtain ⟨o, ho, rfl⟩ := List.mem_map.mp hd
    dsimp only [bd1]
    cases o with
    | none =>
      refine' Ev.ite (c := true) ?t1C ?t2C ?t3C
      case t1C => exact Te.cmp (Ev.name Sg.hd) Ev.none Op2.isN
      case t2C => intro q; exact Ev.none
      case t3C => intro q; cases q
    | some h =>
      refine' Ev.ite (c := false) ?s1C ?s2C ?s3C
      case s1C => exact Te.cmp (Ev.name Sg.hd) Ev.none Op2.isN
      case s2C => intro q; cases q
      case s3C =>
        intro q
        refine' Ev.eq (Ev.call ?c1C ?c2C ?c3C (fn_painted w n h (hbo h ho))) ?c4C
        case c1C => exact rfl
        case c2C => exact ⟨_, _, _, _, rfl⟩
        case c3C => exact Evs.cons (Ev.name Sg.hd) Evs.nil
        case c4C =>
          show pD (some h) = pD (some (3600 * h / 3600))
          rw [Int.mul_ediv_cancel_left _ (by decide)]
  case hbC => exact fun d hd p hp => by cases hp
  have e2 : (((os.map optF).map oD).filter fun _ => true).map (fun d => match d with | .int s => pD (some (s / 3600)) | _ => .none) = (os.map optF).map pD := by
    rw [filt_enc (p := fun _ => true) (f2 := pD) (fun _ _ => rfl) (fun o _ => by
      cases o with
      | none => rfl
      | some h =>
        show pD (some (3600 * h / 3600)) = _
        rw [Int.mul_ediv_cancel_left _ (by decide)]), List.filter_eq_self.mpr (fun _ _ => rfl)]
  rw [e2]
  have e1' := e1
  have bo := hbo
  have el := hlo
  generalize hts : os.map optF = ts at hlo hbo
  walk_at "own"
  refine' Exs.forW (ds := ts.map pD) (fun _ => [(Str.ofString "painted", D.lst (ts.map pD)), (Str.ofString "told", D.lst (ts.map oD)), (Str.ofString "offices", D.lst (os.map o2D))]) (fun i => some (Str.ofString "table", (ts.take i).map tD)) (fun i => bd1 (Str.ofString "eighths") (pD (ts.getD i none))) ?hID ?h0D ?hωD ?hAD ?hBD ?hRD
  case hID =>
    refine' Itb.list ?qD
    case qD => walk_at "ev"
  case h0D =>
    intro p hp
    simp only [List.mem_cons, List.not_mem_nil, or_false] at hp
    rcases hp with rfl | rfl | rfl <;> walk_at "mem"
  case hωD => rfl
  case hAD =>
    intro i d hd
    have e : d = pD (ts.getD i none) := by
      rw [List.getElem?_map] at hd
      rw [List.getD_eq_getElem?_getD]
      cases q : ts[i]? with
      | none => rw [q] at hd; cases hd
      | some o => rw [q] at hd; cases hd; rfl
    rw [e]
    exact Asg.cell (fun _ => ⟨L + 1, rfl⟩)
  case hBD =>
    intro g₁ i d hd
    have hex : ∃ o, ts[i]? = some o := by
      rw [List.getElem?_map] at hd
      cases q : ts[i]? with
      | none => rw [q] at hd; cases hd
      | some o => exact ⟨o, rfl⟩
    obtain ⟨o, ho⟩ := hex
    have eo : ts.getD i none = o := by rw [List.getD_eq_getElem?_getD, ho]; rfl
    rw [eo]
    have et : (ts.take (i + 1)).map tD = (ts.take i).map tD ++ [tD o] := take_map ho
    have hlen' : ((ts.take i).map tD).length < sizeLine := by
      rw [List.length_map, List.length_take]
      exact Nat.lt_of_le_of_lt (m := 4) (by omega) (by decide)
    dsimp only [bd1]
    cases o with
    | none =>
      refine' Exs.ifYes (σ' := [(Str.ofString "painted", D.lst (ts.map pD)), (Str.ofString "told", D.lst (ts.map oD)), (Str.ofString "offices", D.lst (os.map o2D))]) (ω' := some (Str.ofString "table", (ts.take (i + 1)).map tD)) (Te.eq (Te.cmp (Ev.name Sg.hd) Ev.none Op2.isN) rfl) ?b1D (Exs.nilW fun p hp => hp)
      case b1D =>
        refine' Exs.append (d := D.none) Ev.none hlen' (Exs.nilE ?b2D (by rw [et]; rfl))
        case b2D =>
          intro p hp
          simp only [List.mem_cons, List.not_mem_nil, or_false] at hp
          rcases hp with rfl | rfl | rfl <;> walk_at "mem"
    | some h =>
      refine' Exs.ifElse (σ' := [(Str.ofString "painted", D.lst (ts.map pD)), (Str.ofString "told", D.lst (ts.map oD)), (Str.ofString "offices", D.lst (os.map o2D))]) (ω' := some (Str.ofString "table", (ts.take (i + 1)).map tD)) (Te.eq (Te.cmp (Ev.name Sg.hd) Ev.none Op2.isN) rfl) ?b3D (Exs.nilW fun p hp => hp)
      case b3D =>
        refine' Exs.append (d := rD h) ?k1D hlen' (Exs.nilE ?b4D (by rw [et]; rfl))
        case b4D =>
          intro p hp
          simp only [List.mem_cons, List.not_mem_nil, or_false] at hp
          rcases hp with rfl | rfl | rfl <;> walk_at "mem"
        case k1D =>
          refine' Ev.eq (Ev.comp (σ' := [(Str.ofString "eighths", pD (some h))]) (fun d => (noonF h).getD d.toI.toNat 0 == 8) id (fun d => bd1 (Str.ofString "hour") d) ?hIE ?hclosE ?hcapE ?hszE ?hAE ?hTE ?hEE ?hbE) ?eE
          case hIE =>
            refine' Itb.range ?aE ?bE
            case aE => walk_at "ev"
            case bE => decide
          case hclosE => exact rfl
          case hcapE => exact Caps.one Sg.hd rfl rfl fun C => ⟨rfl, rfl⟩
          case hszE => rw [upto_length]; decide
          case hAE => intro C d hd; exact Asg.name
          case hTE =>
            intro C d hd
            obtain ⟨j, hj, rfl⟩ := upto_mem hd
            have hj' : j < 24 := hj
            refine' Tes.one ?oE
            dsimp only [bd1, id]
            refine' Te.eq (Te.cmp (Ev.item (ds := (noonF h).map D.int) (k := (j : Int)) ?vE ?wE ?xE ?yE (getD_int ?zE)) Ev.int Op2.eqI) ?rE
            case vE => refine' Ev.eq (d := pD (some h)) (Ev.name ?v2E) rfl; walk_at "mem"
            case wE => refine' Ev.name ?w2E; walk_at "mem"
            case xE => omega
            case yE => omega
            case zE =>
              show j < _
              unfold noonF
              rw [List.length_map, List.length_range]; exact hj'
            case rE => rfl
          case hEE =>
            intro C d hd _
            dsimp only [bd1, id]
            refine' Ev.name ?nE
            walk_at "mem"
          case hbE =>
            intro d hd p hp
            rw [List.mem_singleton] at hp; subst hp
            dsimp only [bd1]
            walk_at "mem"
          case eE =>
            show _ = D.lst ((tabF h).map D.int)
            unfold upto tabF
            rw [filt_enc (p := fun i : Nat => (noonF h).getD i 0 == 8) (f2 := fun i : Nat => D.int (i : Int)) (fun _ _ => rfl) (fun _ _ => rfl), List.map_map]
            rfl
  case hRD =>
  refine' Exs.freeze ?frD
  rw [List.length_map, List.take_of_length_le (Nat.le_refl _)]
  have hrows : ((ts.map tD).filter fun d => !d.isNone).map id = (ts.filterMap id).map rD := rows_eq ts
  refine' Exs.assignC (Ev.eq (Ev.comp (σ' := []) (fun d => !d.isNone) id (fun d => bd1 (Str.ofString "row") d) ?hIF ?hclosF ?hcapF ?hszF ?hAF ?hTF ?hEF ?hbF) (congrArg D.lst hrows)) ?hhF
  case hIF =>
    refine' Itb.list ?qF
    case qF => walk_at "ev"
  case hclosF => exact rfl
  case hcapF => exact Caps.none
  case hszF => rw [List.length_map, hlo]; decide
  case hAF => intro C d hd; exact Asg.name
  case hTF => exact fun C d hd => Tes.one (Te.cmp (Ev.name Sg.hd) Ev.none Op2.isNotN)
  case hEF => exact fun C d hd _ => Ev.name Sg.hd
  case hbF => exact fun d hd p hp => by cases hp
  have hne : ts.filterMap id ≠ [] := by rw [← hts]; exact F.ne
  have hsl : (ts.filterMap id).length ≤ 4 := by rw [← hlo]; exact List.length_filterMap_le _ _
  have hhs : hsF os = ts.filterMap id := by unfold hsF; rw [hts]
  have hbs : ∀ h ∈ ts.filterMap id, -23 ≤ h ∧ h ≤ 23 := by
    intro h hh
    obtain ⟨o, ho, e⟩ := List.mem_filterMap.mp hh
    cases e
    exact hbo h ho
  have few := F.few
  have least := F.least
  have gaps := F.gaps
  have sorted := F.sorted
  rw [hhs] at few least gaps sorted
  generalize ts.filterMap id = hs at hne hsl hbs few least gaps sorted
  refine' Exs.assignComp (σ' := [(Str.ofString "rows", D.lst (hs.map rD))]) (fun d => hs.all fun h => (tabF h).any (· == d.toI)) id (bd1 (Str.ofString "hour")) (ds := (tabF (hs.headD 0)).map D.int) ?hIG ?hclosG ?hcapG ?hszG ?hAG ?hTG ?hEG ?hbG ?hhG
  case hIG =>
    refine' Itb.list ?qG
    case qG =>
      refine' Ev.item (d := rD (hs.headD 0)) (k := (0 : Nat)) (Ev.name Sg.hd) Ev.int (by decide) (by decide) ?iG
      case iG =>
        cases hs with
        | nil => exact absurd rfl hne
        | cons a l => rfl
  case hclosG => exact rfl
  case hcapG => exact Caps.one Sg.hd rfl rfl fun C => ⟨rfl, rfl⟩
  case hszG => rw [List.length_map]; exact Nat.le_trans (tabF_len _) (by decide)
  case hAG => exact fun C d hd => Asg.cell (fun _ => ⟨C + 1, rfl⟩)
  case hTG =>
    intro C d hd
    obtain ⟨x, hx, rfl⟩ := List.mem_map.mp hd
    dsimp only [bd1]
    refine' Tes.one (Te.eq (Te.cmp (Ev.comp (σ' := [(Str.ofString "hour", D.int x)]) (fun d => !(intsOf d).any (· == x)) id (fun d => bd1 (Str.ofString "row") d) ?hIH ?hclosH ?hcapH ?hszH ?hAH ?hTH ?hEH ?hbH) (Ev.list Evs.nil (by decide)) (Op2.eqNil ?okH)) ?eH)
    case hIH =>
      refine' Itb.list (ds := hs.map rD) ?qH
      case qH => refine' Ev.name ?q2H; walk_at "mem"
    case hclosH => exact rfl
    case hcapH => exact Caps.one Sg.hd rfl rfl fun C => ⟨rfl, rfl⟩
    case hszH => rw [List.length_map]; exact Nat.le_trans hsl (by decide)
    case hAH => exact fun C d hd => Asg.name
    case hTH =>
      intro C d hd
      obtain ⟨h, hh, rfl⟩ := List.mem_map.mp hd
      dsimp only [bd1]
      rw [intsOf_rD]
      refine' Tes.one (Te.cmp (Ev.name ?n1H) (Ev.eq (d := rD h) (Ev.name ?n2H) rfl) (Op2.notinIs (ns := tabF h)))
      case n1H => walk_at "mem"
      case n2H => walk_at "mem"
    case hEH => exact fun C d hd _ => Ev.name Sg.hd
    case hbH =>
      intro d hd p hp
      rw [List.mem_singleton] at hp; subst hp
      dsimp only [bd1]
      walk_at "mem"
    case okH =>
      rw [List.map_id]
      exact ok_list fun d hd => by
        obtain ⟨h, hh, rfl⟩ := List.mem_map.mp (List.mem_filter.mp hd).1
        exact ok_ints 58 _
    case eH => exact none_out hs x
  case hEG =>
    intro C d hd _
    exact Ev.name Sg.hd
  case hbG =>
    intro d hd p hp
    rw [List.mem_singleton] at hp; subst hp
    dsimp only [bd1]
    walk_at "mem"
  have e5 : (((tabF (hs.headD 0)).map D.int).filter fun d => hs.all fun h => (tabF h).any (· == d.toI)).map id = (togF hs).map D.int := by
    rw [filt_enc (p := fun x : Int => hs.all fun h => (tabF h).any (· == x)) (f2 := D.int) (fun _ _ => rfl) (fun _ _ => rfl)]
    rfl
  rw [e5]
  refine' Exs.assign (d := D.int ((togF hs).length : Int)) (Ev.callB ?mA ?mB (Evs.cons (Ev.eq (Ev.comp2 (σ' := [(Str.ofString "rows", D.lst (hs.map rD))]) (ds := hs.map rD) (fun _ => hs.map rD) (fun d d2 => .int (((intsOf d).filter fun x => (intsOf d2).any (· == x)).length : Nat)) (bd1 (Str.ofString "one")) (bd1 (Str.ofString "other")) ?hIK ?hclosK ?hcapK ?hszK ?hAK ?hI2K ?hA2K ?hEK ?hbK ?hb2K) (congrArg D.lst (pairs_eq hs))) Evs.nil) (OpV.minL few least)) ?hhK
  case mA => exact rfl
  case mB => exact rfl
  case hIK =>
    refine' Itb.list ?qK
    case qK => walk_at "ev"
  case hclosK => exact rfl
  case hcapK =>
    refine' Caps.one ?memK rfl rfl fun C => ⟨rfl, rfl⟩
    case memK => walk_at "mem"
  case hszK =>
    rw [List.length_flatMap]
    refine Nat.le_trans (sum_le (k := 4) fun x hx => ?_) (Nat.le_trans (Nat.mul_le_mul_right 4 (Nat.le_trans (Nat.le_of_eq (List.length_map ..)) hsl)) (by decide))
    rw [List.length_map]; exact hsl
  case hAK => exact fun C d hd => Asg.name
  case hI2K =>
    intro C d hd
    refine' Itb.list (ds := hs.map rD) ?q2K
    case q2K => refine' Ev.name ?q3K; dsimp only [bd1]; walk_at "mem"
  case hA2K => exact fun C d hd d2 hd2 => Asg.cell (fun _ => ⟨C + 1, rfl⟩)
  case hEK =>
    intro C d hd d2 hd2
    obtain ⟨a, ha, rfl⟩ := List.mem_map.mp hd
    obtain ⟨b, hb, rfl⟩ := List.mem_map.mp hd2
    rw [intsOf_rD, intsOf_rD]
    have eK : ((((tabF a).map D.int).filter fun d => (tabF b).any (· == d.toI)).map id) = ((tabF a).filter fun x => (tabF b).any (· == x)).map D.int := by
      rw [filt_enc (p := fun x : Int => (tabF b).any (· == x)) (f2 := D.int) (fun _ _ => rfl) (fun _ _ => rfl)]
    refine' Ev.eq (Ev.callB ?lA ?lB (Evs.cons (Ev.eq (Ev.comp (σ' := [(Str.ofString "other", rD b)]) (ds := (tabF a).map D.int) (fun d => (tabF b).any (· == d.toI)) id (fun d => bd1 (Str.ofString "hour") d) ?hIL ?hclosL ?hcapL ?hszL ?hAL ?hTL ?hEL ?hbL) (congrArg D.lst eK)) Evs.nil) (OpV.lenL ?lenL)) ?eL
    case lA => exact rfl
    case lB => exact rfl
    case hIL =>
      refine' Itb.list (Ev.eq (d := rD a) (Ev.name ?q2L) rfl)
      case q2L => dsimp only [bd1]; walk_at "mem"
    case hclosL => exact rfl
    case hcapL => exact Caps.one Sg.hd rfl rfl fun C => ⟨rfl, rfl⟩
    case hszL => rw [List.length_map]; exact Nat.le_trans (tabF_len _) (by decide)
    case hAL => exact fun C d hd => Asg.name
    case hTL =>
      intro C d hd
      obtain ⟨x, hx, rfl⟩ := List.mem_map.mp hd
      dsimp only [bd1]
      refine' Tes.one (Te.cmp (Ev.name ?n1L) (Ev.eq (d := rD b) (Ev.name ?n2L) rfl) (Op2.inIs (k := x) (ns := tabF b)))
      case n1L => walk_at "mem"
      case n2L => walk_at "mem"
    case hEL => exact fun C d hd _ => Ev.name Sg.hd
    case hbL =>
      intro d hd p hp
      rw [List.mem_singleton] at hp; subst hp
      dsimp only [bd1]
      walk_at "mem"
    case lenL =>
      rw [List.length_map]
      have := Nat.le_trans (List.length_filter_le (fun x => (tabF b).any (· == x)) (tabF a)) (tabF_len a)
      omega
    case eL => rw [List.length_map]
  case hbK =>
    intro d hd p hp
    rw [List.mem_singleton] at hp; subst hp
    dsimp only [bd1]
    walk_at "mem"
  case hb2K =>
    intro d hd d2 hd2 p hp
    dsimp only [bd1] at hp ⊢
    obtain ⟨y, v⟩ := p
    rcases List.mem_cons.mp hp with hp | hp
    · cases hp; walk_at "mem"
    · have hp' := (Sg.of_drop hp).1
      rw [List.mem_singleton] at hp'; cases hp'
      walk_at "mem"
  refine' Exs.ifNot (Te.eq (Te.cmp (Ev.callB ?oAZ ?oBZ ?oCZ (OpV.lenL ?oDZ)) ?oEZ Op2.neI) ?oFZ) ?oGZ
  case oAZ => exact rfl
  case oBZ => exact rfl
  case oCZ =>
    refine' Evs.cons (d := D.lst ((togF hs).map D.int)) ?oHZ Evs.nil
    case oHZ => walk_at "ev"
  case oDZ =>
    rw [List.length_map]
    have := Nat.le_trans (List.length_filter_le (fun x => hs.all fun h => (tabF h).any (· == x)) (tabF (hs.headD 0))) (tabF_len _)
    unfold togF
    omega
  case oEZ => walk_at "ev"
  case oFZ => simp
  case oGZ =>
  obtain ⟨M, g1, g2, g3, g4⟩ := gaps
  have eM : ((os.map o2D).filter fun d => match d with | .tup [_, .int e] => decide (e < 7) | _ => false).map (fun d => match d with | .tup [.int h, _] => D.int ((8 - h).fmod 24) | _ => .none) = (ssF os).map D.int := by
    rw [filt_enc (p := fun p : Of2 => decide (p.2 < 7)) (f2 := fun p : Of2 => D.int ((8 - p.1).fmod 24)) (fun _ _ => rfl) (fun _ _ => rfl)]
    unfold ssF
    rw [List.map_map]
    rfl
  refine' Exs.ifNot (Te.cmp ?pA (Ev.call ?pB ?pC (Evs.cons (Ev.eq (Ev.comp (σ' := []) (ds := os.map o2D) (fun d => match d with | .tup [_, .int e] => decide (e < 7) | _ => false) (fun d => match d with | .tup [.int h, _] => D.int ((8 - h).fmod 24) | _ => .none) (bdP (Str.ofString "hours") (Str.ofString "dress")) ?hIM ?hclosM ?hcapM ?hszM ?hAM ?hTM ?hEM ?hbM) (congrArg D.lst eM)) Evs.nil) (fn_gaps w (n + 1) (ssF os) M (togF hs) g1 g2 g3 g4 sorted)) (Op2.neD (ok_ints 59 _))) ?pG
  case pA => walk_at "ev"
  case pB => exact rfl
  case pC => exact ⟨_, _, _, _, rfl⟩
  case hIM =>
    refine' Itb.list ?qM
    case qM => walk_at "ev"
  case hclosM => exact rfl
  case hcapM => exact Caps.none
  case hszM => rw [List.length_map, hlen]; decide
  case hAM =>
    intro C d hd
    obtain ⟨p, hp, rfl⟩ := List.mem_map.mp hd
    exact Asg.pair
  case hTM =>
    intro C d hd
    obtain ⟨p, hp, rfl⟩ := List.mem_map.mp hd
    dsimp only [bdP, bd1, o2D]
    refine' Tes.one (Te.cmp ?tA Ev.int Op2.ltI)
    case tA => walk_at "ev"
  case hEM =>
    intro C d hd _
    obtain ⟨p, hp, rfl⟩ := List.mem_map.mp hd
    dsimp only [bdP, bd1, o2D]
    refine' Ev.bin (Ev.bin Ev.int ?uA Op2.subI) Ev.int (Op2.modI (by decide))
    case uA => walk_at "ev"
  case hbM => exact fun d hd p hp => by cases hp
  case pG =>
  have noted := F.noted
  rw [hts] at noted
  refine' Exs.ifNot (Te.cmp (Ev.eq (Ev.call ?nA ?nB (Evs.cons (Ev.call ?nC ?nD (Evs.cons (d := D.lst (ts.map oD)) ?nEX Evs.nil) (fn_notes w n ts (Nat.le_of_eq hlo))) Evs.nil) (fn_noted w (n + 1) (wsI ts ts.length) ?nF ?nH)) (congrArg D.lst noted)) ?nI (Op2.neD ?nJ)) ?nG
  case nA => exact rfl
  case nB => exact ⟨_, _, _, _, rfl⟩
  case nC => exact rfl
  case nD => exact ⟨_, _, _, _, rfl⟩
  case nEX => walk_at "ev"
  case nF => rw [wsI_len]; exact Nat.le_of_eq hlo
  case nH =>
    intro v hv
    have := wsI_le ts ts.length v hv
    rw [hlo] at this
    omega
  case nI => walk_at "ev"
  case nJ => exact ok_list (fun d hd => by
      obtain ⟨o, _, rfl⟩ := List.mem_map.mp hd
      exact ok_tD o)
  case nG =>
  have eR : ((os.map o2D).filter fun _ => true).map (fun d => match d with | .tup [.int h, .int e] => pD (optF (h, e)) | _ => .none) = ts.map pD := by
    rw [filt_enc (p := fun _ => true) (f2 := fun p : Of2 => pD (optF p)) (fun _ _ => rfl) (fun _ _ => rfl), List.filter_eq_self.mpr (fun _ _ => rfl), ← hts, List.map_map]
    rfl
  refine' Exs.ret (Ev.cmp ?rA (Ev.eq (Ev.comp (σ' := []) (ds := os.map o2D) (fun _ => true) (fun d => match d with | .tup [.int h, .int e] => pD (optF (h, e)) | _ => .none) (bdP (Str.ofString "hours") (Str.ofString "dress")) ?hIR ?hclosR ?hcapR ?hszR ?hAR ?hTR ?hER ?hbR) (congrArg D.lst eR)) (Op2.eqD ?okR))
  case rA => walk_at "ev"
  case hIR =>
    refine' Itb.list ?qR
    case qR => walk_at "ev"
  case hclosR => exact rfl
  case hcapR => exact Caps.none
  case hszR => rw [List.length_map, hlen]; decide
  case hAR =>
    intro C d hd
    obtain ⟨p, hp, rfl⟩ := List.mem_map.mp hd
    exact Asg.pair
  case hTR => exact fun C d hd => Tes.nil
  case hER =>
    intro C d hd _
    obtain ⟨p, hp, rfl⟩ := List.mem_map.mp hd
    obtain ⟨h1, h2, h3, h4⟩ := F.hb p hp
    dsimp only [bdP, bd1, o2D]
    refine' Ev.ite (c := p.2 == 7) ?xA ?xB ?xC
    case xA => walk_at "te1"
    case xB =>
      intro q
      refine' Ev.eq Ev.none ?yB
      case yB => unfold optF; rw [if_pos (of_decide_eq_true q)]; rfl
    case xC =>
      intro q
      refine' Ev.eq (Ev.call ?zA ?zB ?zC (fn_noon w (n + 1) p.1 ⟨h1, h2⟩)) ?zD
      case zA => exact rfl
      case zB => exact ⟨_, _, _, _, rfl⟩
      case zC => walk_at "evs"
      case zD => unfold optF; rw [if_neg (of_decide_eq_false q)]; rfl
  case hbR => exact fun d hd p hp => by cases hp
  case okR => exact ok_list (fun d hd => by
      obtain ⟨o, _, rfl⟩ := List.mem_map.mp hd
      exact ok_pD o)
end

end Mine

section
open PySem
set_option Elab.async false
set_option linter.unusedVariables false
namespace Mine
set_option maxRecDepth 100000
theorem fm (a : Int) : a.fmod 24 = a % 24 := Int.fmod_eq_emod_of_nonneg a (by decide)
def cc (r t : Int) : Int := (if (t - r) % 24 < 8 then 8 - (t - r) % 24 else 0) + (if 16 < (t - r) % 24 then (t - r) % 24 - 16 else 0)
def mx (M : Int) : Int := if 16 < M then M - 16 else 0
theorem exmax : ∀ g : List Int, g ≠ [] → ∃ M, M ∈ g ∧ ∀ a ∈ g, a ≤ M
  | [], h => absurd rfl h
  | [a], _ => ⟨a, .head _, fun x hx => by rw [List.mem_singleton] at hx; omega⟩
  | a :: b :: g, _ => by
    obtain ⟨M, hM, hl⟩ := exmax (b :: g) (by simp)
    by_cases h : a ≤ M
    · exact ⟨M, .tail _ hM, fun x hx => by
        rcases List.mem_cons.mp hx with rfl | hx
        · exact h
        · exact hl x hx⟩
    · exact ⟨a, .head _, fun x hx => by
        rcases List.mem_cons.mp hx with rfl | hx
        · omega
        · have := hl x hx; omega⟩
structure Core (ring : List Int) (M o : Int) : Prop where
  le : M ≤ 24
  mem : ∀ x : Int, 0 ≤ x → x < 24 → ((∀ r ∈ ring, (x - r) % 24 < 8) ↔ (x - o) % 24 < M - 16)
  few : ∃ r ∈ ring, ∃ t ∈ ring, cc r t = mx M
  least : ∀ r ∈ ring, ∀ t ∈ ring, mx M ≤ cc r t
theorem cc_gap {r t M : Int} (h : (t - r) % 24 = M % 24) (h8 : 8 ≤ M) (h24 : M ≤ 24) : cc r t = mx M := by
  unfold cc mx; rw [h]; omega
theorem cc_none {r t x : Int} (h : cc r t = 0) (h1 : (x - r) % 24 < 8) (h2 : (x - t) % 24 < 8) : False := by
  unfold cc at h; omega
theorem cc_far {r t o M : Int} (hM : M ≤ 24) (h1 : (r - o) % 24 = 0 ∨ M ≤ (r - o) % 24) (h2 : (t - o) % 24 = 0 ∨ M ≤ (t - o) % 24) : mx M ≤ cc r t := by
  have e : (t - r) % 24 = ((t - o) % 24 - (r - o) % 24) % 24 := by omega
  unfold cc mx
  rw [e]
  have := Int.emod_nonneg (r - o) (b := 24) (by decide)
  have := Int.emod_lt_of_pos (r - o) (b := 24) (by decide)
  have := Int.emod_nonneg (t - o) (b := 24) (by decide)
  have := Int.emod_lt_of_pos (t - o) (b := 24) (by decide)
  generalize (r - o) % 24 = p at *
  generalize (t - o) % 24 = q at *
  clear e
  omega
theorem in_far {x r o M : Int} (hM : M ≤ 24) (h1 : (r - o) % 24 = 0 ∨ M ≤ (r - o) % 24) (h : (x - o) % 24 < M - 16) : (x - r) % 24 < 8 := by omega
theorem in_two {x n o M : Int} (h8 : 8 ≤ M) (hM : M ≤ 24) (hn : (n - o) % 24 = M % 24) (h1 : (x - o) % 24 < 8) (h2 : (x - n) % 24 < 8) : (x - o) % 24 < M - 16 := by omega
structure Gap (ring : List Int) (M o : Int) : Prop where
  le : M ≤ 24
  mo : o ∈ ring
  next : ∃ n ∈ ring, (n - o) % 24 = M % 24
  far : ∀ r ∈ ring, (r - o) % 24 = 0 ∨ M ≤ (r - o) % 24
  few : 8 ≤ M ∨ M < 8 ∧ ∃ r ∈ ring, ∃ t ∈ ring, cc r t = 0
theorem Gap.core {ring : List Int} {M o : Int} (G : Gap ring M o) : Core ring M o where
  le := G.le
  mem := fun x hx hy => by
    constructor
    · intro h
      rcases G.few with h8 | ⟨_, r, hr, t, ht, e⟩
      · obtain ⟨n, hn, e⟩ := G.next
        exact in_two h8 G.le e (h o G.mo) (h n hn)
      · exact (cc_none e (h r hr) (h t ht)).elim
    · exact fun h r hr => in_far G.le (G.far r hr) h
  few := by
    rcases G.few with h8 | ⟨h8, r, hr, t, ht, e⟩
    · obtain ⟨n, hn, e⟩ := G.next
      exact ⟨o, G.mo, n, hn, cc_gap e h8 G.le⟩
    · exact ⟨r, hr, t, ht, by rw [e]; unfold mx; rw [if_neg (by omega)]⟩
  least := fun r hr t ht => cc_far G.le (G.far r hr) (G.far t ht)
theorem far_0 {o M : Int} : (o - o) % 24 = 0 ∨ M ≤ (o - o) % 24 := .inl (by omega)
theorem far_up {r o M : Int} (h1 : o ≤ r) (h2 : r - o < 24) (h : M ≤ r - o) : (r - o) % 24 = 0 ∨ M ≤ (r - o) % 24 := .inr (by rw [Int.emod_eq_of_lt (by omega) h2]; exact h)
theorem far_dn {r o M : Int} (h1 : r < o) (h2 : o - r < 24) (h : M ≤ r + 24 - o) : (r - o) % 24 = 0 ∨ M ≤ (r - o) % 24 := .inr (by omega)
theorem core1 (a : Int) (h0 : 0 ≤ a) (h1 : a < 24) : Core [a] 24 a :=
  Gap.core ⟨Int.le_refl _, by simp, ⟨a, by simp, by omega⟩, fun r hr => by rw [List.mem_singleton] at hr; subst hr; exact far_0, .inl (by decide)⟩
theorem core2 (a b M o : Int) (h0 : 0 ≤ a) (h1 : a < b) (h2 : b < 24) (l1 : b - a ≤ M) (l2 : a + 24 - b ≤ M) (q : M = b - a ∧ o = a ∨ M = a + 24 - b ∧ o = b) : Core [a, b] M o := by
  refine Gap.core ⟨by omega, by rcases q with ⟨_, rfl⟩ | ⟨_, rfl⟩ <;> simp, ?_, fun r hr => ?_, .inl (by omega)⟩
  · rcases q with ⟨q, rfl⟩ | ⟨q, rfl⟩
    · exact ⟨b, by simp, by rw [q]⟩
    · exact ⟨a, by simp, by omega⟩
  · simp only [List.mem_cons, List.not_mem_nil, or_false] at hr
    rcases q with ⟨q, rfl⟩ | ⟨q, rfl⟩ <;> rcases hr with rfl | rfl <;> first | exact far_0 | exact far_up (by omega) (by omega) (by omega) | exact far_dn (by omega) (by omega) (by omega)
theorem core3 (a b c M o : Int) (h0 : 0 ≤ a) (h1 : a < b) (h2 : b < c) (h3 : c < 24) (l1 : b - a ≤ M) (l2 : c - b ≤ M) (l3 : a + 24 - c ≤ M) (q : M = b - a ∧ o = a ∨ M = c - b ∧ o = b ∨ M = a + 24 - c ∧ o = c) : Core [a, b, c] M o := by
  refine Gap.core ⟨by omega, by rcases q with ⟨_, rfl⟩ | ⟨_, rfl⟩ | ⟨_, rfl⟩ <;> simp, ?_, fun r hr => ?_, .inl (by omega)⟩
  · rcases q with ⟨q, rfl⟩ | ⟨q, rfl⟩ | ⟨q, rfl⟩
    · exact ⟨b, by simp, by rw [q]⟩
    · exact ⟨c, by simp, by rw [q]⟩
    · exact ⟨a, by simp, by omega⟩
  · simp only [List.mem_cons, List.not_mem_nil, or_false] at hr
    rcases q with ⟨q, rfl⟩ | ⟨q, rfl⟩ | ⟨q, rfl⟩ <;> rcases hr with rfl | rfl | rfl <;> first | exact far_0 | exact far_up (by omega) (by omega) (by omega) | exact far_dn (by omega) (by omega) (by omega)
theorem core4 (a b c d M o : Int) (h0 : 0 ≤ a) (h1 : a < b) (h2 : b < c) (h3 : c < d) (h4 : d < 24) (l1 : b - a ≤ M) (l2 : c - b ≤ M) (l3 : d - c ≤ M) (l4 : a + 24 - d ≤ M) (q : M = b - a ∧ o = a ∨ M = c - b ∧ o = b ∨ M = d - c ∧ o = c ∨ M = a + 24 - d ∧ o = d) : Core [a, b, c, d] M o := by
  refine Gap.core ⟨by omega, by rcases q with ⟨_, rfl⟩ | ⟨_, rfl⟩ | ⟨_, rfl⟩ | ⟨_, rfl⟩ <;> simp, ?_, fun r hr => ?_, ?_⟩
  · rcases q with ⟨q, rfl⟩ | ⟨q, rfl⟩ | ⟨q, rfl⟩ | ⟨q, rfl⟩
    · exact ⟨b, by simp, by rw [q]⟩
    · exact ⟨c, by simp, by rw [q]⟩
    · exact ⟨d, by simp, by rw [q]⟩
    · exact ⟨a, by simp, by omega⟩
  · simp only [List.mem_cons, List.not_mem_nil, or_false] at hr
    rcases q with ⟨q, rfl⟩ | ⟨q, rfl⟩ | ⟨q, rfl⟩ | ⟨q, rfl⟩ <;> rcases hr with rfl | rfl | rfl | rfl <;> first | exact far_0 | exact far_up (by omega) (by omega) (by omega) | exact far_dn (by omega) (by omega) (by omega)
  · by_cases h8 : 8 ≤ M
    · exact .inl h8
    · refine .inr ⟨by omega, a, by simp, c, by simp, ?_⟩
      have e : (c - a) % 24 = c - a := Int.emod_eq_of_lt (by omega) (by omega)
      unfold cc
      rw [e, if_neg (by omega), if_neg (by omega)]
      rfl
theorem core (ring : List Int) (hn : ring ≠ []) (hl : ring.length ≤ 4) (hs : ring.Pairwise (· < ·)) (hr : ∀ r ∈ ring, 0 ≤ r ∧ r < 24) :
    ∃ M, M ∈ gapsF ring ∧ (∀ a ∈ gapsF ring, a ≤ M) ∧ (∀ a ∈ gapsF ring, -60 ≤ a ∧ a ≤ 60) ∧ Core ring M (openF ring M) := by
  match ring, hn, hl, hs, hr with
  | [a], _, _, hs, hr =>
    have ha := hr a (by simp)
    have e : gapsF [a] = [24] := by
      show [a + 24 - a] = [24]
      congr 1; omega
    refine ⟨24, by rw [e]; simp, by rw [e]; simp, by rw [e]; simp, ?_⟩
    have o : openF [a] 24 = a := by unfold openF; rw [e]; rfl
    rw [o]
    exact core1 a ha.1 ha.2
  | [a, b], _, _, hs, hr =>
    have ha := hr a (by simp)
    have hb := hr b (by simp)
    have e : gapsF [a, b] = [b - a, a + 24 - b] := rfl
    simp only [List.pairwise_cons, List.mem_cons, List.not_mem_nil, or_false, forall_eq_or_imp, forall_eq] at hs
    obtain ⟨M, hM, hle⟩ := exmax (gapsF [a, b]) (by rw [e]; simp)
    refine ⟨M, hM, hle, by rw [e]; simp only [List.mem_cons, List.not_mem_nil, or_false]; rintro x (rfl | rfl) <;> omega, ?_⟩
    have hj := List.idxOf_lt_length_of_mem hM
    have hg := List.getElem_idxOf hj
    have ho : openF [a, b] M = [a, b].getD ((gapsF [a, b]).idxOf M) 0 := rfl
    generalize (gapsF [a, b]).idxOf M = j at hj hg ho
    have l1 := hle (b - a) (by rw [e]; simp)
    have l2 := hle (a + 24 - b) (by rw [e]; simp)
    refine core2 a b M _ ha.1 (by omega) hb.2 l1 l2 ?_
    rw [ho]
    match j, hj, hg with
    | 0, _, hg => exact .inl ⟨hg.symm, rfl⟩
    | 1, _, hg => exact .inr ⟨hg.symm, rfl⟩
  | [a, b, c], _, _, hs, hr =>
    have ha := hr a (by simp)
    have hb := hr b (by simp)
    have hc := hr c (by simp)
    have e : gapsF [a, b, c] = [b - a, c - b, a + 24 - c] := rfl
    simp only [List.pairwise_cons, List.mem_cons, List.not_mem_nil, or_false, forall_eq_or_imp, forall_eq] at hs
    obtain ⟨M, hM, hle⟩ := exmax (gapsF [a, b, c]) (by rw [e]; simp)
    refine ⟨M, hM, hle, by rw [e]; simp only [List.mem_cons, List.not_mem_nil, or_false]; rintro x (rfl | rfl | rfl) <;> omega, ?_⟩
    have hj := List.idxOf_lt_length_of_mem hM
    have hg := List.getElem_idxOf hj
    have ho : openF [a, b, c] M = [a, b, c].getD ((gapsF [a, b, c]).idxOf M) 0 := rfl
    generalize (gapsF [a, b, c]).idxOf M = j at hj hg ho
    have l1 := hle (b - a) (by rw [e]; simp)
    have l2 := hle (c - b) (by rw [e]; simp)
    have l3 := hle (a + 24 - c) (by rw [e]; simp)
    refine core3 a b c M _ ha.1 (by omega) (by omega) hc.2 l1 l2 l3 ?_
    rw [ho]
    match j, hj, hg with
    | 0, _, hg => exact .inl ⟨hg.symm, rfl⟩
    | 1, _, hg => exact .inr (.inl ⟨hg.symm, rfl⟩)
    | 2, _, hg => exact .inr (.inr ⟨hg.symm, rfl⟩)
  | [a, b, c, d], _, _, hs, hr =>
    have ha := hr a (by simp)
    have hb := hr b (by simp)
    have hc := hr c (by simp)
    have hd := hr d (by simp)
    have e : gapsF [a, b, c, d] = [b - a, c - b, d - c, a + 24 - d] := rfl
    simp only [List.pairwise_cons, List.mem_cons, List.not_mem_nil, or_false, forall_eq_or_imp, forall_eq] at hs
    obtain ⟨M, hM, hle⟩ := exmax (gapsF [a, b, c, d]) (by rw [e]; simp)
    refine ⟨M, hM, hle, by rw [e]; simp only [List.mem_cons, List.not_mem_nil, or_false]; rintro x (rfl | rfl | rfl | rfl) <;> omega, ?_⟩
    have hj := List.idxOf_lt_length_of_mem hM
    have hg := List.getElem_idxOf hj
    have ho : openF [a, b, c, d] M = [a, b, c, d].getD ((gapsF [a, b, c, d]).idxOf M) 0 := rfl
    generalize (gapsF [a, b, c, d]).idxOf M = j at hj hg ho
    have l1 := hle (b - a) (by rw [e]; simp)
    have l2 := hle (c - b) (by rw [e]; simp)
    have l3 := hle (d - c) (by rw [e]; simp)
    have l4 := hle (a + 24 - d) (by rw [e]; simp)
    refine core4 a b c d M _ ha.1 (by omega) (by omega) (by omega) hd.2 l1 l2 l3 l4 ?_
    rw [ho]
    match j, hj, hg with
    | 0, _, hg => exact .inl ⟨hg.symm, rfl⟩
    | 1, _, hg => exact .inr (.inl ⟨hg.symm, rfl⟩)
    | 2, _, hg => exact .inr (.inr (.inl ⟨hg.symm, rfl⟩))
    | 3, _, hg => exact .inr (.inr (.inr ⟨hg.symm, rfl⟩))
end Mine
end

section
open PySem
set_option Elab.async false
set_option linter.unusedVariables false
namespace Mine
set_option maxRecDepth 100000
theorem mem_rows {a x : Int} : x ∈ rowsF a ↔ 0 ≤ x ∧ x < 24 ∧ (x - a) % 24 < 8 := by
  unfold rowsF
  simp only [List.mem_map, List.mem_filter, List.mem_range, decide_eq_true_eq, fm]
  constructor
  · rintro ⟨i, ⟨hi, h⟩, rfl⟩; exact ⟨by omega, by omega, h⟩
  · rintro ⟨h0, h1, h⟩; exact ⟨x.toNat, ⟨by omega, by rw [Int.toNat_of_nonneg h0]; exact h⟩, Int.toNat_of_nonneg h0⟩
theorem tab_rows : ∀ k : Fin 47, tabF (((k : Nat) : Int) - 23) = rowsF (8 - (((k : Nat) : Int) - 23)) := by decide +kernel
theorem tab_eq {h : Int} (hb : -23 ≤ h ∧ h ≤ 23) : tabF h = rowsF (8 - h) := by
  have := tab_rows ⟨(h + 23).toNat, by omega⟩
  have e : ((((⟨(h + 23).toNat, by omega⟩ : Fin 47) : Nat) : Int) - 23) = h := by
    show (((h + 23).toNat : Nat) : Int) - 23 = h
    omega
  rw [e] at this
  exact this
theorem rows_mod {a b : Int} (h : (a - b) % 24 = 0) : rowsF a = rowsF b := by
  unfold rowsF
  congr 1
  refine List.filter_congr fun i _ => ?_
  rw [fm, fm]
  congr 1
  exact propext (by omega)
theorem rows_lt (a : Int) : (rowsF a).Pairwise (· < ·) := by
  unfold rowsF
  rw [List.pairwise_map]
  exact (List.Pairwise.filter _ List.pairwise_lt_range).imp (fun h => by omega)
theorem lt_nodup {l : List Int} (h : l.Pairwise (· < ·)) : l.Nodup := h.imp fun h => by omega
theorem cc_rows : ∀ s t : Fin 24, ((((rowsF ((s : Nat) : Int)).filter fun x => (rowsF ((t : Nat) : Int)).any (· == x)).length : Nat) : Int) = cc ((s : Nat) : Int) ((t : Nat) : Int) := by decide +kernel
theorem pF_eq {a b : Int} (ha : -23 ≤ a ∧ a ≤ 23) (hb : -23 ≤ b ∧ b ≤ 23) : pF a b = cc ((8 - a) % 24) ((8 - b) % 24) := by
  unfold pF
  rw [tab_eq ha, tab_eq hb, rows_mod (a := 8 - a) (b := (8 - a) % 24) (by omega), rows_mod (a := 8 - b) (b := (8 - b) % 24) (by omega)]
  have := cc_rows ⟨((8 - a) % 24).toNat, by omega⟩ ⟨((8 - b) % 24).toNat, by omega⟩
  have e1 : (((⟨((8 - a) % 24).toNat, by omega⟩ : Fin 24) : Nat) : Int) = (8 - a) % 24 := Int.toNat_of_nonneg (by omega)
  have e2 : (((⟨((8 - b) % 24).toNat, by omega⟩ : Fin 24) : Nat) : Int) = (8 - b) % 24 := Int.toNat_of_nonneg (by omega)
  rw [e1, e2] at this
  exact this
theorem ring_mem {ss : List Int} {x : Int} : x ∈ ringF ss ↔ 0 ≤ x ∧ x < 24 ∧ x ∈ ss := by
  unfold ringF
  simp only [List.mem_map, List.mem_filter, List.mem_range, List.any_eq_true, beq_iff_eq]
  constructor
  · rintro ⟨i, ⟨hi, y, hy, rfl⟩, rfl⟩; exact ⟨by omega, by omega, hy⟩
  · rintro ⟨h0, h1, h⟩; exact ⟨x.toNat, ⟨by omega, x, h, (Int.toNat_of_nonneg h0).symm⟩, Int.toNat_of_nonneg h0⟩
theorem ring_lt (ss : List Int) : (ringF ss).Pairwise (· < ·) := by
  unfold ringF
  rw [List.pairwise_map]
  exact (List.Pairwise.filter _ List.pairwise_lt_range).imp (fun h => by omega)
theorem tog_mem {hs : List Int} (hne : hs ≠ []) (hb : ∀ h ∈ hs, -23 ≤ h ∧ h ≤ 23) {x : Int} : x ∈ togF hs ↔ 0 ≤ x ∧ x < 24 ∧ ∀ h ∈ hs, (x - (8 - h) % 24) % 24 < 8 := by
  have hd : hs.headD 0 ∈ hs := by
    cases hs with
    | nil => exact absurd rfl hne
    | cons a l => exact .head _
  unfold togF
  simp only [List.mem_filter, List.all_eq_true, List.any_eq_true, beq_iff_eq]
  constructor
  · rintro ⟨hx, h⟩
    rw [tab_eq (hb _ hd)] at hx
    have h1 := mem_rows.mp hx
    refine ⟨h1.1, h1.2.1, fun k hk => ?_⟩
    obtain ⟨y, hy, rfl⟩ := h k hk
    rw [tab_eq (hb k hk)] at hy
    have := (mem_rows.mp hy).2.2
    omega
  · rintro ⟨h0, h1, h⟩
    have hm : ∀ k ∈ hs, x ∈ tabF k := fun k hk => by
      rw [tab_eq (hb k hk)]
      exact mem_rows.mpr ⟨h0, h1, by have := h k hk; omega⟩
    exact ⟨hm _ hd, fun k hk => ⟨x, hm k hk, rfl⟩⟩
theorem tog_lt {hs : List Int} (hne : hs ≠ []) (hb : ∀ h ∈ hs, -23 ≤ h ∧ h ≤ 23) : (togF hs).Pairwise (· < ·) := by
  have hd : hs.headD 0 ∈ hs := by
    cases hs with
    | nil => exact absurd rfl hne
    | cons a l => exact .head _
  unfold togF
  rw [tab_eq (hb _ hd)]
  exact List.Pairwise.filter _ (rows_lt _)
theorem run_mem {o M x : Int} (hM : M ≤ 24) : x ∈ runF o M ↔ 0 ≤ x ∧ x < 24 ∧ (x - o) % 24 < M - 16 := by
  unfold runF
  simp only [List.mem_map, List.mem_range, fm]
  constructor
  · rintro ⟨i, hi, rfl⟩; omega
  · rintro ⟨h0, h1, h⟩; exact ⟨((x - o) % 24).toNat, by omega, by omega⟩
theorem run_nodup {o M : Int} (hM : M ≤ 24) : (runF o M).Nodup := by
  unfold runF
  rw [List.nodup_iff_pairwise_ne, List.pairwise_map]
  refine (List.pairwise_lt_range (n := (M - 16).toNat)).imp_of_mem fun {i j} hi hj h => ?_
  rw [List.mem_range] at hi hj
  rw [fm, fm]
  omega
end Mine
end

section
open PySem
set_option Elab.async false
set_option linter.unusedVariables false
namespace Mine
set_option maxRecDepth 100000
theorem row_eq {w : Nat} {h : Int} (hb : -23 ≤ h ∧ h ≤ 23) (e : ((w : Int) - (8 - h)) % 24 = 0) : rowD (some w) = tD (some h) := by
  show D.lst ((rowsF (w : Int)).map D.int) = D.lst ((tabF h).map D.int)
  rw [tab_eq hb, rows_mod e]
theorem list4 {α : Type} {a b c d a' b' c' d' : α} (h1 : a = a') (h2 : b = b') (h3 : c = c') (h4 : d = d') : [a, b, c, d] = [a', b', c', d'] := by rw [h1, h2, h3, h4]
theorem noted_law (ts : List (Option Int)) (hl : ts.length = 4) (hb : ∀ h : Int, some h ∈ ts → -23 ≤ h ∧ h ≤ 23) : (wsI ts ts.length).map rowD = ts.map tD := by
  match ts, hl, hb with
  | [a, b, c, d], _, hb =>
    show (wsI [a, b, c, d] 4).map rowD = [tD a, tD b, tD c, tD d]
    rcases a with _ | a <;> rcases b with _ | b <;> rcases c with _ | c <;> rcases d with _ | d <;>
      (refine list4 ?_ ?_ ?_ ?_ <;> first
        | rfl
        | (refine row_eq (hb _ (by simp)) ?_
           simp [kI, atI, clocksF, fm]
           omega))
theorem facts (os : List Of2) (hlen : os.length = 4) (hb : ∀ p ∈ os, -23 ≤ p.1 ∧ p.1 ≤ 23 ∧ 0 ≤ p.2 ∧ p.2 ≤ 7) (h0 : (os.headD (0, 7)).2 < 7) : Facts os := by
  have hbo : ∀ h : Int, some h ∈ os.map optF → -23 ≤ h ∧ h ≤ 23 := by
    intro h hh
    obtain ⟨p, hp, e⟩ := List.mem_map.mp hh
    obtain ⟨h1, h2, h3, h4⟩ := hb p hp
    unfold optF at e
    split at e
    · cases e
    · cases e; exact ⟨h1, h2⟩
  have hbs : ∀ h ∈ hsF os, -23 ≤ h ∧ h ≤ 23 := by
    intro h hh
    obtain ⟨o, ho, e⟩ := List.mem_filterMap.mp hh
    cases e
    exact hbo h ho
  have hmem : ∀ h, h ∈ hsF os ↔ ∃ p ∈ os, p.2 < 7 ∧ p.1 = h := by
    intro h
    unfold hsF
    simp only [List.mem_filterMap, List.mem_map]
    constructor
    · rintro ⟨o, ⟨p, hp, rfl⟩, e⟩
      have := hb p hp
      unfold optF at e
      split at e
      · cases e
      · cases e; exact ⟨p, hp, by omega, rfl⟩
    · rintro ⟨p, hp, h7, rfl⟩
      refine ⟨some p.1, ⟨p, hp, ?_⟩, rfl⟩
      unfold optF
      rw [if_neg (by omega)]
  have hne : hsF os ≠ [] := by
    cases os with
    | nil => simp at hlen
    | cons p l =>
      have : p.1 ∈ hsF (p :: l) := (hmem _).mpr ⟨p, .head _, h0, rfl⟩
      intro q; rw [q] at this; cases this
  have hss : ∀ r, r ∈ ssF os ↔ ∃ h ∈ hsF os, r = (8 - h) % 24 := by
    intro r
    unfold ssF
    simp only [List.mem_map, List.mem_filter, decide_eq_true_eq, fm]
    constructor
    · rintro ⟨p, ⟨hp, h7⟩, rfl⟩; exact ⟨p.1, (hmem _).mpr ⟨p, hp, h7, rfl⟩, rfl⟩
    · rintro ⟨h, hh, rfl⟩
      obtain ⟨p, hp, h7, rfl⟩ := (hmem h).mp hh
      exact ⟨p, ⟨hp, h7⟩, rfl⟩
  have hring : ∀ r, r ∈ ringF (ssF os) ↔ ∃ h ∈ hsF os, r = (8 - h) % 24 := by
    intro r
    rw [ring_mem, hss]
    constructor
    · exact fun h => h.2.2
    · rintro ⟨h, hh, rfl⟩; exact ⟨by omega, by omega, h, hh, rfl⟩
  have hrl : (ringF (ssF os)).length ≤ 4 := by
    refine Nat.le_trans (List.Nodup.length_le_of_subset (lt_nodup (ring_lt _)) (fun x hx => (ring_mem.mp hx).2.2)) ?_
    unfold ssF
    rw [List.length_map, ← hlen]
    exact List.length_filter_le _ _
  have hrn : ringF (ssF os) ≠ [] := by
    intro q
    cases e : hsF os with
    | nil => exact hne e
    | cons h l =>
      have : (8 - h) % 24 ∈ ringF (ssF os) := (hring _).mpr ⟨h, by rw [e]; exact .head _, rfl⟩
      rw [q] at this; cases this
  obtain ⟨M, g1, g2, g3, C⟩ := core (ringF (ssF os)) hrn hrl (ring_lt _) (fun r hr => ⟨(ring_mem.mp hr).1, (ring_mem.mp hr).2.1⟩)
  have hperm : (togF (hsF os)).Perm (runF (openF (ringF (ssF os)) M) M) := by
    refine (List.perm_ext_iff_of_nodup (lt_nodup (tog_lt hne hbs)) (run_nodup C.le)).mpr fun x => ?_
    rw [tog_mem hne hbs, run_mem C.le]
    constructor
    · rintro ⟨h1, h2, h3⟩
      refine ⟨h1, h2, (C.mem x h1 h2).mp fun r hr => ?_⟩
      obtain ⟨h, hh, rfl⟩ := (hring r).mp hr
      exact h3 h hh
    · rintro ⟨h1, h2, h3⟩
      exact ⟨h1, h2, fun h hh => (C.mem x h1 h2).mpr h3 _ ((hring _).mpr ⟨h, hh, rfl⟩)⟩
  have hlt : ((togF (hsF os)).length : Int) = mx M := by
    rw [hperm.length_eq]
    unfold runF mx
    rw [List.length_map, List.length_range]
    split <;> omega
  have hpairs : ∀ v, v ∈ pairsF (hsF os) ↔ ∃ a ∈ hsF os, ∃ b ∈ hsF os, v = cc ((8 - a) % 24) ((8 - b) % 24) := by
    intro v
    unfold pairsF
    simp only [List.mem_flatMap, List.mem_map]
    constructor
    · rintro ⟨a, ha, b, hb', rfl⟩; exact ⟨a, ha, b, hb', pF_eq (hbs a ha) (hbs b hb')⟩
    · rintro ⟨a, ha, b, hb', rfl⟩; exact ⟨a, ha, b, hb', pF_eq (hbs a ha) (hbs b hb')⟩
  refine ⟨hlen, hb, hne, ⟨M, g1, g2, g3, hperm⟩, (tog_lt hne hbs).imp (fun h => by omega), ?_, ?_, noted_law _ (by rw [List.length_map, hlen]) hbo⟩
  · rw [hlt, hpairs]
    obtain ⟨r, hr, t, ht, e⟩ := C.few
    obtain ⟨a, ha, rfl⟩ := (hring r).mp hr
    obtain ⟨b, hb', rfl⟩ := (hring t).mp ht
    exact ⟨a, ha, b, hb', e.symm⟩
  · intro v hv
    rw [hlt]
    obtain ⟨a, ha, b, hb', rfl⟩ := (hpairs v).mp hv
    exact C.least _ ((hring _).mpr ⟨a, ha, rfl⟩) _ ((hring _).mpr ⟨b, hb', rfl⟩)
/-- the offices as pairs -/
def ofsF (cs : List Int) : List Of2 := (List.range cs.length).map fun i => (hoursO (cs.getD i 0), dressO i (cs.getD i 0))
theorem ofs_eq (cs : List Int) : officesD cs = (ofsF cs).map o2D := by
  unfold officesD ofsF
  rw [List.map_map]
  rfl
theorem ofs_facts (cs : List Int) (h4 : cs.length = 4) : Facts (ofsF cs) := by
  refine facts _ (by unfold ofsF; simp [h4]) (fun p hp => ?_) ?_
  · unfold ofsF at hp
    obtain ⟨i, _, rfl⟩ := List.mem_map.mp hp
    generalize cs.getD i 0 = m
    have h1 : -23 ≤ hoursO m ∧ hoursO m ≤ 23 := by
      unfold hoursO
      rw [fm]
      split <;> omega
    have h2 : 0 ≤ dressO i m ∧ dressO i m ≤ 7 := by
      unfold dressO
      split
      · rw [Int.fmod_eq_emod_of_nonneg _ (by decide)]; omega
      · rw [Int.fmod_eq_emod_of_nonneg _ (by decide)]; omega
    exact ⟨h1.1, h1.2, h2.1, h2.2⟩
  · unfold ofsF
    rw [h4]
    show dressO 0 (cs.getD 0 0) < 7
    show ((cs.getD 0 0).fdiv 48).fmod 7 < 7
    rw [Int.fmod_eq_emod_of_nonneg _ (by decide)]
    omega
end Mine
end

section
open PySem PySem.W PyProof.Rows PySem.Calls
set_option Elab.async false
set_option linter.unusedVariables false
namespace Mine
set_option maxRecDepth 100000
set_option maxHeartbeats 4000000
theorem issInts {g : FH} : ∀ {vs : List Value} {xs : List Int}, IntsAre vs xs → Iss g vs (xs.map D.int)
  | _, _, .nil => .nil
  | _, _, .cons n t r => .cons (.int n t) (issInts r)
theorem well_list {P : Params} {h : Heap} {a : Addr} {xs : List PyData} (W : Well P h (.ref a) (ofPy (.list xs))) : ∃ vs : List Value, h.get? a = some { cls := .type "list", data := .seq vs.toArray } := by
  have W' : Well P h (.ref a) (.list (ofPys xs)) := by
    have e : ofPy (.list xs) = .list (ofPys xs) := by simp [ofPy]
    rw [← e]; exact W
  cases W' with
  | list h1 h2 => exact ⟨_, h1⟩
theorem law_runs {w : World} {s₁ : Shared} {mg mb : Str → Option Value} {E : Value → Shared → Prop} {fa L : Addr} {vs : List Value} {xs : List Int} (hT : s₁.heap.Ns mainGlobals mg) (hB : s₁.heap.Ns builtinsNs mb) (hb : ∀ x : Str, x ≠ "__name__" → mb x = bootBuiltins x) (hN : s₁.heap.NoLimit)
    (KX : (hd.heap_39 w.params).In s₁.heap) (hmg : mg (Str.ofString "law") = some (.ref fa)) (hL : s₁.heap.IsList L vs.toArray) (hW : Well w.params s₁.heap (.ref L) (ofPy (PyData.list (xs.map PyData.int)))) (hI : IntsAre vs xs) (hl : xs.length ≤ 63) :
    wpAny (model Challenge.pw_xe0004_01 w) callerA (call (.ref fa) [.ref L]) (fun v s' => v = .bool true ∧ (∃ h tk, s' = { s₁ with heap := h, toks := tk }) ∧ ∀ b o, s₁.heap.get? b = some o → s'.heap.get? b = some o) E s₁ := by
  have e : fa = 112 := by
    have := mg_of (n := Str.ofString "law") (v := .ref 112) KX hT rfl
    rw [hmg] at this
    cases this; rfl
  subst e
  have gd : Gd (hd.heap_39 w.params) (fun a => s₁.heap.get? a) := ⟨KX, ⟨mg, mb, FNs.of hT, FNs.of hB, hb⟩, let ⟨mc, a, b⟩ := hN; ⟨mc, FNs.of a, b⟩⟩
  refine wpAny_mono (fn_law w 0 xs hl (ofsF _) (ofs_eq _) (ofs_facts _ (cellsI_len _ _)) callerA s₁ (fun a => s₁.heap.get? a) E [.ref L] ⟨rfl, by decide +kernel, by decide +kernel⟩ gd (fun a o e => e) (.cons ?_ .nil)) (fun v s' h => ?_) fun _ _ h => h
  · obtain ⟨o, ho, hc, n, hd'⟩ := hL
    obtain ⟨us, hu⟩ := well_list hW
    rw [hu] at ho
    cases ho
    injection hd' with e1 e2
    subst e2
    have e3 : us = vs := by have := congrArg Array.toList e1; simpa using this
    subst e3
    exact .lst hu (issInts hI)
  · obtain ⟨h1, h2, h3⟩ := h
    refine ⟨?_, h1, h2⟩
    cases h3; rfl
end Mine
end

set_option maxRecDepth 100000 in
set_option maxHeartbeats 8000000 in
theorem PySem.Challenge.cw_xe0004_01_holds : PySem.Challenge.rw_xe0004_01.Holds := by
  refine Mine.hd ?_
  intro w s₀ s₁ mg mb G Y fa o pm cd doc dV kV ho hd' hcd hD hmg hg args vals as hpre hlay hrd hwl hlo
  have KX := kIn_of Y
  refine Ground.open G ?_
  intro T B D TE TW
  clear hcd hd'
  wrow_args hpre hlay hrd hwl hlo
  rename_i xs hs0 hlay0 hL1 hr1 hl2 q4 q3 L vs q0 hL ra w1 r0 hI hr hc hc0
  refine wpAny_mono (Mine.law_runs T.g T.b T.builtins T.nolimit KX hmg hL w1 hI (by omega)) (fun v s' h => ?_) fun _ _ h => h
  obtain ⟨rfl, ⟨h1, tk, rfl⟩, k⟩ := h
  exact GoodW.toG ⟨.inl ⟨.bool true, .bool true, [], rfl, fun _ => rfl, .bool true, by wrow_post, unshared_nil⟩, k, rfl, hg⟩
