import PyProof.Rows.All
import Wide.All
import OpenK.AllK
import Wide.FinOn
import PySem.Challenge.RW_mq0501_01
open PySem PySem.W PyProof.Rows PySem.Calls
set_option Elab.async false
set_option maxRecDepth 100000

namespace Mine

/-! ## keeping -/
theorem keeps_refl (s : Shared) : Keeps s s := ⟨s.heap, s.toks, rfl, fun _ _ e => e⟩
theorem keeps_trans {s₁ s₂ s₃ : Shared} (a : Keeps s₁ s₂) (b : Keeps s₂ s₃) : Keeps s₁ s₃ := by
  obtain ⟨h, t, rfl, k⟩ := a
  obtain ⟨h', t', rfl, k'⟩ := b
  exact ⟨h', t', rfl, fun b o e => k' b o (k b o e)⟩
theorem keeps_get {s s' : Shared} (k : Keeps s s') {a : Addr} {o : Obj} (e : s.heap.get? a = some o) : s'.heap.get? a = some o := by
  obtain ⟨h, t, rfl, k⟩ := k
  exact k _ _ e
theorem keeps_tok (s : Shared) (t : Nat) : Keeps s { s with toks := t } := ⟨s.heap, t, rfl, fun _ _ e => e⟩
theorem keeps_push (s : Shared) (o : Obj) (t : Nat) : Keeps s { s with heap := s.heap.push o, toks := t } := ⟨_, t, rfl, fun _ _ e => Heap.get?_push_of_some _ e⟩
theorem fresh_at {s s' : Shared} (k : Keeps s s') {a : Addr} (h : s'.heap.objs.size ≤ a) : s.heap.get? a = none := by
  cases e : s.heap.get? a with
  | none => rfl
  | some o => exact absurd (Heap.lt_size (keeps_get k e)) (Nat.not_lt.mpr h)

/-! ## the text's defs and what stands before the call -/
def nth : Nat → List Stmt → Stmt
  | _, [] => .Pass ⟨0, 0, 0, 0⟩
  | 0, s :: _ => s
  | n + 1, _ :: r => nth n r
def bodyOf : Stmt → List Stmt
  | .FunctionDef _ _ b _ _ _ _ _ _ _ => b
  | _ => []
def argsOf : Stmt → Arguments
  | .FunctionDef _ a _ _ _ _ _ _ _ _ => a
  | _ => { posonlyargs := [], args := [], vararg := none, kwonlyargs := [], kw_defaults := [], kwarg := none, defaults := [] }
def scopeOf : Stmt → Scope
  | .FunctionDef _ _ _ _ _ _ s _ _ _ => s
  | _ => { kind := .function, names := [], isGenerator := false, isCoroutine := false }
def theDef (i : Nat) : Stmt := nth i PySem.Challenge.pw_mq0501_01.main.body

def mkFd (i : Nat) (nm q : Str) (dV doc pm : Value) (cd ct : Value) (an : Option Addr) : FuncData :=
  { name := nm, qualname := q, params := argsOf (theDef i), body := .stmts (bodyOf (theDef i)), scope := scopeOf (theDef i), globals := mainGlobals, closure := [], defaults := dV, kwdefaults := .none,
    doc := doc, pyModule := pm, annotations := an, code := cd, closureTuple := ct, builtins := builtinsNs }

structure FnAt (h : Heap) (a : Addr) (i : Nat) (dV : Value) : Prop where
  at_ : ∃ o nm q doc pm cd ct an, h.get? a = some o ∧ o.data = .func (mkFd i nm q dV doc pm cd ct an) ∧ h.CodeRec cd q
theorem FnAt.keeps {h h' : Heap} {a : Addr} {i : Nat} {dV : Value} (x : FnAt h a i dV) (k : ∀ b o, h.get? b = some o → h'.get? b = some o) : FnAt h' a i dV := by
  obtain ⟨o, nm, q, doc, pm, cd, ct, an, h1, h2, h3⟩ := x.at_
  exact ⟨o, nm, q, doc, pm, cd, ct, an, k _ _ h1, h2, h3.keeps k⟩

def globTab : List (Str × Value) := [("dict_replace_saxutils", .ref 21), ("escape", .ref 30), ("quoteattr", .ref 39), ("_law_row", .ref 44), ("_law_power", .ref 49), ("_law_quoted", .ref 54), ("_law_counted", .ref 59)]
def builtTab : List (Str × Value) := [("len", .builtin "len"), ("sum", .builtin "sum"), ("range", .type "range"), ("set", .type "set")]

structure Base (h : Heap) : Prop where
  lim : h.NoLimit
  glob : ∃ mg mb, h.Ns mainGlobals mg ∧ h.Ns builtinsNs mb ∧ (∀ p ∈ globTab, mg p.1 = some p.2) ∧ (∀ p ∈ builtTab, mg p.1 = none ∧ mb p.1 = some p.2)
  f21 : FnAt h 21 1 .none
  f30 : FnAt h 30 2 (.ref 23)
  f39 : FnAt h 39 3 (.ref 32)
  f44 : FnAt h 44 5 .none
  f49 : FnAt h 49 6 .none
  f54 : FnAt h 54 7 .none
  f59 : FnAt h 59 8 .none
  d22 : h.get? 22 = some { cls := .type "dict", data := .dict #[] }
  d23 : h.get? 23 = some { cls := .type "tuple", data := .seq #[.ref 22] }
  d31 : h.get? 31 = some { cls := .type "dict", data := .dict #[] }
  d32 : h.get? 32 = some { cls := .type "tuple", data := .seq #[.ref 31] }
theorem Base.keeps {h h' : Heap} (x : Base h) (k : ∀ b o, h.get? b = some o → h'.get? b = some o) : Base h' where
  lim := x.lim.keeps k
  glob := let ⟨mg, mb, h1, h2, h3, h4⟩ := x.glob; ⟨mg, mb, h1.keeps k, h2.keeps k, h3, h4⟩
  f21 := x.f21.keeps k
  f30 := x.f30.keeps k
  f39 := x.f39.keeps k
  f44 := x.f44.keeps k
  f49 := x.f49.keeps k
  f54 := x.f54.keeps k
  f59 := x.f59.keeps k
  d22 := k _ _ x.d22
  d23 := k _ _ x.d23
  d31 := k _ _ x.d31
  d32 := k _ _ x.d32

/-! ## room -/
structure Room (k : Nat) (A : Around) : Prop where
  hh : A.handled = none
  hd : A.depth + k < recursionLimit
  hu : A.units + 100 + 8 * k < cLine
theorem Room.deeper {k : Nat} {A : Around} (r : Room (k + 1) A) (env : Env) : Room k (A.deeper env) :=
  ⟨r.hh, by have := r.hd; show A.depth + 1 + k < _; omega, by have := r.hu; show A.units + 3 + 100 + 8 * k < _; omega⟩
theorem Room.in1 {k : Nat} {A : Around} (r : Room (k + 1) A) : Room k A.in1 :=
  ⟨r.hh, by have := r.hd; show A.depth + k < _; omega, by have := r.hu; show A.units + 1 + 100 + 8 * k < _; omega⟩
theorem Room.le {k : Nat} {A : Around} (r : Room (k + 1) A) : Room k A := ⟨r.hh, by have := r.hd; omega, by have := r.hu; omega⟩
theorem Room.depth {k : Nat} {A : Around} (r : Room k A) : A.depth < recursionLimit := by have := r.hd; omega
theorem Room.u64 {k : Nat} {A : Around} (r : Room k A) : A.units + 64 < cLine := by have := r.hu; omega

/-! ## what a block sees while an expression is reckoned -/
structure Ex (s₀ : Shared) (env : Env) (m cm : Str → Option Value) (N : List (Addr × Obj)) (s : Shared) : Prop where
  keep : Keeps s₀ s
  ns : s.heap.Ns env.locals m
  cell : ∀ n c, env.cells.lookup n = some c → s.heap.IsCell c (cm n)
  news : ∀ p ∈ N, s.heap.get? p.1 = some p.2
  base : Base s.heap
  tok : 0 < s.toks

section
variable {prog : Program} {w : World} {A : Around} {E : Value → Shared → Prop} {s₀ s : Shared} {env : Env} {m cm : Str → Option Value} {N : List (Addr × Obj)}

theorem Ex.to {s' : Shared} (x : Ex s₀ env m cm N s) (k : Keeps s s') (ht : 0 < s'.toks) : Ex s₀ env m cm N s' := by
  have kk := keeps_trans x.keep k
  obtain ⟨h, t, rfl, k⟩ := k
  exact ⟨kk, x.ns.keeps k, fun n c e => (x.cell n c e).keeps k, fun p hp => k _ _ (x.news p hp), x.base.keeps k, ht⟩
theorem Ex.tk (x : Ex s₀ env m cm N s) (n : Nat) : Ex s₀ env m cm N { s with toks := s.toks + n } := x.to (keeps_tok _ _) (Nat.lt_of_lt_of_le x.tok (Nat.le_add_right _ _))
theorem Ex.tk1 (x : Ex s₀ env m cm N s) : Ex s₀ env m cm N { s with toks := s.toks + 1 } := x.tk 1
theorem Ex.add {a : Addr} {o : Obj} (x : Ex s₀ env m cm N s) (h : s.heap.get? a = some o) : Ex s₀ env m cm ((a, o) :: N) s :=
  ⟨x.keep, x.ns, x.cell, fun p hp => by rcases List.mem_cons.mp hp with rfl | hp; exact h; exact x.news p hp, x.base, x.tok⟩
theorem Ex.push (x : Ex s₀ env m cm N s) (o : Obj) (hf : o.isFreed = false) : Ex s₀ env m cm ((s.heap.objs.size, o) :: N) { s with heap := s.heap.push o } :=
  (x.to (keeps_push s o s.toks) x.tok).add (Heap.get?_push_size _ hf)
theorem Ex.root (x : Ex s₀ env m cm N s) : Ex s env m cm N s := ⟨keeps_refl _, x.ns, x.cell, x.news, x.base, x.tok⟩
theorem Ex.sub {N' : List (Addr × Obj)} (x : Ex s₀ env m cm N s) (h : ∀ p ∈ N', p ∈ N) : Ex s₀ env m cm N' s := ⟨x.keep, x.ns, x.cell, fun p hp => x.news p (h p hp), x.base, x.tok⟩

/-- a step that keeps everything -/
theorem Ex.step {α : Type} {t : Sem α} {P : α → Shared → Prop} {Q : α → Shared → Prop} (x : Ex s₀ env m cm N s)
    (h : wpAny (model prog w) A t (fun v s' => P v s' ∧ Keeps s s') (fun _ _ => False) s)
    (hQ : ∀ v s', P v s' → Keeps s s' → Ex s₀ env m cm N s' → Q v s') : wpAny (model prog w) A t Q E s :=
  wpAny_with_toks (n := s.toks) (Nat.le_refl _) (wpAny_mono h (fun v s' hp ht => hQ v s' hp.1 hp.2 (x.to hp.2 (Nat.lt_of_lt_of_le x.tok ht))) fun _ _ f => f.elim)

theorem Ex.local_ {x : Str} {pos : Pos} {v : Value} {Q : Value → Shared → Prop} (X : Ex s₀ env m cm N s) (hv : m x = some v) (h : Q v s)
    (hk : env.scope.kind = .function := by rfl) (hl : env.kindOf x = some .local := by rfl) (hd : (x == ("__debug__" : Str)) = false := by decide) :
    wpAny (model prog w) A (eval (.Name x pos) env) Q E s := wpAny_Name (wpAny_loadName_local hk hl X.ns hv h) hd
theorem Ex.cell_ {x : Str} {pos : Pos} {c : Addr} {v : Value} {Q : Value → Shared → Prop} (X : Ex s₀ env m cm N s) (hv : cm x = some v) (h : Q v s)
    (hk : env.scope.kind = .function := by rfl) (hl : env.kindOf x = some .cell := by rfl) (hc : env.cells.lookup x = some c := by rfl) (hd : (x == ("__debug__" : Str)) = false := by decide) :
    wpAny (model prog w) A (eval (.Name x pos) env) Q E s := wpAny_Name (wpAny_loadName_cell hk hl hc (hv ▸ X.cell x c hc) h) hd
theorem Ex.glob_ {x : Str} {pos : Pos} {v : Value} {Q : Value → Shared → Prop} (X : Ex s₀ env m cm N s) (hv : (x, v) ∈ globTab) (h : Q v s)
    (hk : env.scope.kind = .function := by rfl) (hl : env.kindOf x = some .globalImplicit := by rfl) (hg : env.globals = mainGlobals := by rfl) (hd : (x == ("__debug__" : Str)) = false := by decide) :
    wpAny (model prog w) A (eval (.Name x pos) env) Q E s := by
  obtain ⟨mg, mb, h1, h2, h3, h4⟩ := X.base.glob
  exact Name_function_global hk hl (loadGlobal_global (by rw [hg]; exact h1) (h3 _ hv) h) hd
theorem Ex.built_ {x : Str} {pos : Pos} {v : Value} {Q : Value → Shared → Prop} (X : Ex s₀ env m cm N s) (hv : (x, v) ∈ builtTab) (h : Q v s)
    (hk : env.scope.kind = .function := by rfl) (hl : env.kindOf x = some .globalImplicit := by rfl) (hg : env.globals = mainGlobals := by rfl) (hb : env.builtins = builtinsNs := by rfl) (hd : (x == ("__debug__" : Str)) = false := by decide) :
    wpAny (model prog w) A (eval (.Name x pos) env) Q E s := by
  obtain ⟨mg, mb, h1, h2, h3, h4⟩ := X.base.glob
  exact Name_function_global hk hl (loadGlobal_builtin (by rw [hg]; exact h1) (h4 _ hv).1 (by rw [hb]; exact h2) (h4 _ hv).2 h) hd
end

/-! ## a def's own frame -/
structure In (s₀ : Shared) (R : Heap) (env : Env) (m cm : Str → Option Value) (N : List (Addr × Obj)) (s : Shared) : Prop extends Ex s₀ env m cm N s where
  base0 : Base s₀.heap
  fresh : s₀.heap.objs.size ≤ env.locals
  apart : ∀ n n' c, env.cells.lookup n = some c → env.cells.lookup n' = some c → n = n'
  above : ∀ n c, env.cells.lookup n = some c → env.locals < c
  off : ∀ p ∈ N, p.1 ≠ env.locals ∧ ∀ n c, env.cells.lookup n = some c → p.1 ≠ c
  since : ∀ b o, b ≠ env.locals → (∀ n c, env.cells.lookup n = some c → b ≠ c) → R.get? b = some o → s.heap.get? b = some o

def upd (m : Str → Option Value) (x : Str) (v : Value) : Str → Option Value := fun y => if y = x then some v else m y

section
variable {prog : Program} {w : World} {A : Around} {E : Value → Shared → Prop} {s₀ s : Shared} {R : Heap} {env : Env} {m cm : Str → Option Value} {N : List (Addr × Obj)}

theorem In.ex (x : In s₀ R env m cm N s) : Ex s env m cm N s := x.toEx.root
theorem In.rebase (x : In s₀ R env m cm N s) : In s₀ s.heap env m cm N s := { x with since := fun _ _ _ _ e => e }
theorem In.sub {N' : List (Addr × Obj)} (x : In s₀ R env m cm N s) (h : ∀ p ∈ N', p ∈ N) : In s₀ R env m cm N' s :=
  { x with toEx := x.toEx.sub h, off := fun p hp => x.off p (h p hp) }
/-- what an expression made joins the frame -/
theorem In.of {N' : List (Addr × Obj)} {s' : Shared} (x : In s₀ R env m cm N s) (e : Ex s env m cm N' s') (h : ∀ p ∈ N', p ∈ N ∨ s.heap.get? p.1 = none) : In s₀ R env m cm N' s' := by
  refine { toEx := ⟨keeps_trans x.keep e.keep, e.ns, e.cell, e.news, e.base, e.tok⟩, base0 := x.base0, fresh := x.fresh, apart := x.apart, above := x.above, off := ?_, since := fun b o h1 h2 h3 => keeps_get e.keep (x.since b o h1 h2 h3) }
  intro p hp
  rcases h p hp with h | h
  · exact x.off p h
  · refine ⟨fun q => ?_, fun n c hc q => ?_⟩
    · obtain ⟨o, _, _, ho, _⟩ := x.ns
      rw [← q, h] at ho; cases ho
    · obtain ⟨o, ho, _⟩ := x.cell n c hc
      rw [← q, h] at ho; cases ho

theorem In.low (x : In s₀ R env m cm N s) {b : Addr} (h : b < s₀.heap.objs.size) : b ≠ env.locals ∧ ∀ n c, env.cells.lookup n = some c → b ≠ c :=
  ⟨Nat.ne_of_lt (Nat.lt_of_lt_of_le h x.fresh), fun n c hc => Nat.ne_of_lt (Nat.lt_trans (Nat.lt_of_lt_of_le h x.fresh) (x.above n c hc))⟩

/-- a name of the frame's own is stored -/
theorem In.stL {x : Str} {v : Value} {Q : Unit → Shared → Prop} (X : In s₀ R env m cm N s) (hk : env.scope.kind = .function) (hl : env.kindOf x = some .local)
    (h : ∀ s', In s₀ R env (upd m x v) cm N s' → Q () s') : wpAny (model prog w) A (storeName env x v) Q E s := by
  refine wpAny_storeName_local hl X.ns (fun h' hn hs => ?_) (by rw [hk]; rfl)
  obtain ⟨h₁, t, rfl, k⟩ := X.keep
  have kk : Keeps s₀ { s₀ with heap := h', toks := t + 1 } := ⟨h', t + 1, rfl, fun b o e => hs.extBut b o (X.low (Heap.lt_size e)).1 (k b o e)⟩
  exact h _ { toEx := ⟨kk, hn, fun n c hc => (X.cell n c hc).sameBut hs (Nat.ne_of_gt (X.above n c hc)), fun p hp => hs.extBut _ _ (X.off p hp).1 (X.news p hp), X.base0.keeps (fun b o e => keeps_get kk e), Nat.succ_pos _⟩, base0 := X.base0, fresh := X.fresh, apart := X.apart, above := X.above, off := X.off, since := fun b o h1 h2 h3 => hs.extBut b o h1 (X.since b o h1 h2 h3) }
/-- a cell of the frame's is stored -/
theorem In.stC {x : Str} {c : Addr} {v : Value} {Q : Unit → Shared → Prop} (X : In s₀ R env m cm N s) (hk : env.scope.kind = .function) (hl : env.kindOf x = some .cell) (hc : env.cells.lookup x = some c)
    (h : ∀ s', In s₀ R env m (upd cm x v) N s' → Q () s') : wpAny (model prog w) A (storeName env x v) Q E s := by
  refine wpAny_storeName_cell hk hl hc (X.cell x c hc) fun h' hv hs => ?_
  obtain ⟨h₁, t, rfl, k⟩ := X.keep
  have kk : Keeps s₀ { s₀ with heap := h', toks := t } := ⟨h', t, rfl, fun b o e => hs.extBut b o ((X.low (Heap.lt_size e)).2 x c hc) (k b o e)⟩
  refine h _ { toEx := ⟨kk, X.ns.sameBut hs (Nat.ne_of_lt (X.above x c hc)), fun n c' hc' => ?_, fun p hp => hs.extBut _ _ ((X.off p hp).2 x c hc) (X.news p hp), X.base0.keeps (fun b o e => keeps_get kk e), X.tok⟩, base0 := X.base0, fresh := X.fresh, apart := X.apart, above := X.above, off := X.off, since := fun b o h1 h2 h3 => hs.extBut b o (h2 x c hc) (X.since b o h1 h2 h3) }
  by_cases hn : n = x
  · subst hn
    rw [hc] at hc'; cases hc'
    simpa [upd] using hv
  · have hcc : c' ≠ c := fun q => hn (X.apart n x c (q ▸ hc') hc)
    simpa [upd, hn] using (X.cell n c' hc').sameBut hs hcc

/-- x = e, e no comprehension of the same line -/
theorem In.assignL {x : Str} {p' pos : Pos} {value : Expr} {Q : Flow → Shared → Prop} (X : In s₀ R env m cm N s)
    (h : wpAny (model prog w) A (eval value env) (fun v s' => ∃ N', Ex s env m cm N' s' ∧ (∀ p ∈ N', p ∈ N ∨ s.heap.get? p.1 = none) ∧ ∀ s'', In s₀ R env (upd m x v) cm N' s'' → Q .next s'') E s)
    (hk : env.scope.kind = .function := by rfl) (hl : env.kindOf x = some .local := by rfl) (hsw : swapsWith value (some (.Name x p')) pos.line env = pure false := by rfl) :
    wpAny (model prog w) A (exec (.Assign [.Name x p'] value pos) env) Q E s := by
  refine wpAny_Assign_Name (wpAny_mono h (fun v s' hv => ?_) fun _ _ e => e) hsw
  obtain ⟨N', e, hf, hq⟩ := hv
  exact (X.of e hf).stL hk hl hq
theorem In.assignC {x : Str} {c : Addr} {p' pos : Pos} {value : Expr} {Q : Flow → Shared → Prop} (X : In s₀ R env m cm N s)
    (h : wpAny (model prog w) A (eval value env) (fun v s' => ∃ N', Ex s env m cm N' s' ∧ (∀ p ∈ N', p ∈ N ∨ s.heap.get? p.1 = none) ∧ ∀ s'', In s₀ R env m (upd cm x v) N' s'' → Q .next s'') E s)
    (hk : env.scope.kind = .function := by rfl) (hl : env.kindOf x = some .cell := by rfl) (hc : env.cells.lookup x = some c := by rfl) (hsw : swapsWith value (some (.Name x p')) pos.line env = pure false := by rfl) :
    wpAny (model prog w) A (exec (.Assign [.Name x p'] value pos) env) Q E s := by
  refine wpAny_Assign_Name (wpAny_mono h (fun v s' hv => ?_) fun _ _ e => e) hsw
  obtain ⟨N', e, hf, hq⟩ := hv
  exact (X.of e hf).stC hk hl hc hq
end

/-! ## a def is called -/
def envOf' (i : Nat) (q : Str) (L a : Addr) (cd : Value) : Env :=
  { scope := scopeOf (theDef i), locals := L, globals := mainGlobals, cells := cellsFrom (L + 1) (scopeOf (theDef i)).names [], qual := q ++ ".<locals>.", func := some a, code := cd, frame := some L, builtins := builtinsNs }

section
variable {prog : Program} {w : World} {A : Around} {E : Value → Shared → Prop} {s : Shared}

theorem call_def {i : Nat} {a : Addr} {dV : Value} {vals : List Value} {binds : List (Str × Value)} {N : List (Addr × Obj)} {Q : Value → Shared → Prop} (hB : Base s.heap) (ht : 0 < s.toks) (hN : ∀ p ∈ N, s.heap.get? p.1 = some p.2)
    (hf : FnAt s.heap a i dV) (hroom : A.depth < recursionLimit)
    (hbind : ∀ nm q doc pm cd ct an, BindsTo s (mkFd i nm q dV doc pm cd ct an) ⟨vals, []⟩ binds)
    (hkind : ∀ L, ∀ x ∈ binds, (scopeOf (theDef i)).names.lookup x.1 = some .local ∨ ((scopeOf (theDef i)).names.lookup x.1 = some .cell ∧ ((cellsFrom (L + 1) (scopeOf (theDef i)).names []).lookup x.1).isSome = true))
    (hco : (scopeOf (theDef i)).isCoroutine = false) (hgen : (scopeOf (theDef i)).isGenerator = false) (hk : (scopeOf (theDef i)).kind = .function)
    (h : ∀ q cd s₁, In s s.heap (envOf' i q s.heap.objs.size a cd) (bindL (envOf' i q s.heap.objs.size a cd).kindOf binds fun _ => none) (bindC (envOf' i q s.heap.objs.size a cd).kindOf binds fun _ => none) N s₁ →
      wpAny (model prog w) (A.deeper (envOf' i q s.heap.objs.size a cd)) (execs (bodyOf (theDef i)) (envOf' i q s.heap.objs.size a cd))
        (fun f s' => (∃ v, f = .ret v ∧ Q v s')) (fun _ _ => False) s₁) :
    wpAny (model prog w) A (call (.ref a) vals) Q E s := by
  obtain ⟨o, nm, q, doc, pm, cd, ct, an, ho, hd, hcd⟩ := hf.at_
  refine wpAny_call (codeAny_call_function hroom ho hd hco hgen rfl hcd (hbind nm q doc pm cd ct an _ _ _ _ ?_))
  refine wpAny_with_toks (n := s.toks) (Nat.le_refl _) (wpAny_newFunctionEnv_cells hk (hkind _) fun env he s' x htk => ?_)
  have he' : env = envOf' i q s.heap.objs.size a cd := he
  subst he'
  refine ⟨hB.lim.keeps x.toInCall.keep, codeAny_func ?_⟩
  have kk : Keeps s s' := by obtain ⟨h', tk, e, k⟩ := x.done; exact ⟨h', tk, e, k⟩
  have X : In s s.heap (envOf' i q s.heap.objs.size a cd) (bindL (envOf' i q s.heap.objs.size a cd).kindOf binds fun _ => none) (bindC (envOf' i q s.heap.objs.size a cd).kindOf binds fun _ => none) N s' :=
    { toEx := ⟨kk, x.toInCall.ns, x.cell, fun p hp => keeps_get kk (hN p hp), hB.keeps fun b o e => keeps_get kk e, Nat.lt_of_lt_of_le ht htk⟩, base0 := hB, fresh := x.toInCall.fresh
      apart := fun n n' c h1 h2 => name_of_addr x.apart (mem_of_lookup h1) (mem_of_lookup h2)
      above := fun n c h1 => x.above n c (mem_of_lookup h1)
      off := fun p hp => ⟨Nat.ne_of_lt (Nat.lt_of_lt_of_le (Heap.lt_size (hN p hp)) x.toInCall.fresh), fun n c hc => Nat.ne_of_lt (Nat.lt_trans (Nat.lt_of_lt_of_le (Heap.lt_size (hN p hp)) x.toInCall.fresh) (x.above n c (mem_of_lookup hc)))⟩
      since := fun b o _ _ e => keeps_get kk e }
  refine wpAny_mono (h q cd s' X) (fun f s₂ hq => ?_) fun _ _ f => f.elim
  obtain ⟨v, rfl, hq⟩ := hq
  exact hq
end
end Mine

namespace Mine

theorem cellsFrom_append : ∀ (names : List (Str × NameKind)) (n : Nat) (acc : List (Str × Addr)), cellsFrom n names acc = cellsFrom n names [] ++ acc
  | [], _, _ => rfl
  | (name, kind) :: r, n, acc => by
    unfold cellsFrom
    split
    · rw [cellsFrom_append r (n + 1) ((name, n) :: acc), cellsFrom_append r (n + 1) [(name, n)]]; simp
    · exact cellsFrom_append r n acc
theorem pushCells_size : ∀ (names : List (Str × NameKind)) (h : Heap), h.objs.size ≤ (pushCells h names).objs.size
  | [], _ => Nat.le_refl _
  | (_, kind) :: r, h => by
    unfold pushCells
    split
    · have := pushCells_size r (h.push { cls := .type "cell", data := .cell none })
      rw [Heap.size_push] at this; omega
    · exact pushCells_size r h

section
variable {prog : Program} {w : World} {A : Around} {E : Value → Shared → Prop} {s : Shared} {env : Env}

theorem newCompEnv {scope : Scope} {cl : List (Str × Addr)} {Q : Env → Shared → Prop}
    (hQ : ∀ h₁, h₁.Ns s.heap.objs.size (fun _ => none) → CellsOk h₁ (s.heap.objs.size + 1) (cellsFrom (s.heap.objs.size + 1) scope.names []) → (∀ b o, s.heap.get? b = some o → h₁.get? b = some o) →
      Q { scope, locals := s.heap.objs.size, globals := env.globals, cells := cellsFrom (s.heap.objs.size + 1) scope.names cl, qual := env.qual, func := none, code := env.code, frame := env.frame, builtins := env.builtins } { s with heap := h₁ }) :
    wpAny (model prog w) A (newFunctionEnv scope env.globals cl [] env.qual none .none (some env)) Q E s := by
  simp only [newFunctionEnv, Option.isSome_some, if_true]
  refine wpAny_bind (wpAny_alloc ?_)
  refine wpAny_bind (wpAny_layCells _ (fun name kind cells => by cases hkc : kind == NameKind.cell <;> simp) _ _ _ _ ?_)
  have ok := cellsFrom_ok scope.names (s.heap.push { cls := .type "dict", data := .dict #[] }) (s.heap.objs.size + 1) [] ⟨fun _ _ hm => (nomatch hm), List.Pairwise.nil⟩ (by rw [Heap.size_push]; exact Nat.le_refl _)
  rw [Heap.size_push] at ok
  rw [show ({ s with heap := s.heap.push { cls := .type "dict", data := .dict #[] } } : Shared).heap.objs.size = s.heap.objs.size + 1 from Heap.size_push ..]
  simp only [List.forIn_nil]
  refine wpAny_bind (wpAny_pure (wpAny_pure ?_))
  exact hQ _ ((Heap.Ns.new s.heap (.type "dict")).keeps (pushCells_keeps _ _)) ok fun b o e => pushCells_keeps _ _ b o (Heap.get?_push_of_some _ e)
end

theorem wpAny_any {α : Type} {M : Model} {A : Around} {t : Sem α} {P Q : α → Shared → Prop} {E : Value → Shared → Prop} {s : Shared} (h : wpAny M A t P (fun _ _ => False) s) (hQ : ∀ v s', P v s' → Q v s') : wpAny M A t Q E s :=
  wpAny_mono h hQ fun _ _ f => f.elim

def isIter (o : Obj) : Bool := o.cls == .type "list_iterator" || o.cls == .type "range_iterator"

/-- what a block's own part of the heap is: its names, its own cells -/
def Blk (C : Addr) (own : List (Str × Addr)) (h : Heap) : Prop := (∃ m, h.Ns C m) ∧ ∀ n c, (n, c) ∈ own → ∃ v, h.IsCell c v
def blkAt (C : Addr) (own : List (Str × Addr)) : List Addr := C :: own.map (·.2)
theorem Blk.at {C : Addr} {own : List (Str × Addr)} {h h' : Heap} (x : Blk C own h) (k : ∀ b o, b ∈ blkAt C own → h.get? b = some o → h'.get? b = some o) : Blk C own h' := by
  refine ⟨?_, fun n c hc => ?_⟩
  · obtain ⟨m, hm⟩ := x.1
    exact ⟨m, hm.at' fun o e => k C o List.mem_cons_self e⟩
  · obtain ⟨v, o, ho, hd⟩ := x.2 n c hc
    exact ⟨v, o, k c o (List.mem_cons_of_mem _ (List.mem_map.mpr ⟨(n, c), hc, rfl⟩)) ho, hd⟩

/-- the tests of a clause -/
def tests (ifs : List Expr) (cenv : Env) : Sem Bool := forIn ifs true fun c r => if r = true then do let ok ← isTrue c cenv (eval c cenv); pure (ForInStep.yield ok) else pure (ForInStep.yield r)

section
variable {prog : Program} {w : World} {A : Around} {R : Result → Shared → Prop} {s : Shared}

theorem compLoop_all {elt target iter : Expr} {ifs : List Expr} {scope : Scope} {pos : Pos} {I D C : Addr} {own : List (Str × Addr)} {fp wr : List Addr} {n : Nat} {P : Nat → Value → Prop} {St : Nat → Heap → Prop} {cenv : Env}
    (W : Walks prog w A I fp wr n P St) (p : Value → Bool) (F : List Addr → Value → Value → Heap → Prop) (Asg : Value → Heap → Prop)
    (hDb : D ∉ blkAt C own) (hDf : D ∉ fp) (hbf : ∀ b ∈ blkAt C own, b ∉ fp)
    (hFk : ∀ v y h h', F (D :: (wr ++ blkAt C own)) v y h → (∀ b o, b ∉ D :: (wr ++ blkAt C own) → h.get? b = some o → h'.get? b = some o) → F (D :: (wr ++ blkAt C own)) v y h')
    (hAk : ∀ v h h', Asg v h → (∀ b o, h.get? b = some o → h'.get? b = some o) → Asg v h')
    (hst : St 0 s.heap) (hacc : s.heap.PlainList D #[]) (hblk : Blk C own s.heap)
    (hgo : ∀ i v s₂ (Q : Unit → Shared → Prop) E', i < n → P i v → St (i + 1) s₂.heap → Q () s₂ → wpAny (model prog w) A (letOwnedTupleGo target (.ref I) v) Q E' s₂)
    (hasg : ∀ i v s₂, i < n → P i v → Blk C own s₂.heap → (∀ b o, b ∉ D :: (wr ++ blkAt C own) → s.heap.get? b = some o → s₂.heap.get? b = some o) → s.toks ≤ s₂.toks →
      wpAny (model prog w) A (assign target cenv v) (fun _ s₃ => ∃ h' tk, s₃ = { s₂ with heap := h', toks := tk } ∧ Blk C own h' ∧ Asg v h' ∧ ∀ b o, b ∉ blkAt C own → s₂.heap.get? b = some o → h'.get? b = some o) (fun _ _ => False) s₂)
    (htests : ∀ i v s₂, i < n → P i v → Asg v s₂.heap → (∀ b o, b ∉ D :: (wr ++ blkAt C own) → s.heap.get? b = some o → s₂.heap.get? b = some o) → s.toks ≤ s₂.toks →
      wpAny (model prog w) A (tests ifs cenv) (fun ok s₃ => ok = p v ∧ Keeps s₂ s₃) (fun _ _ => False) s₂)
    (helt : ∀ i v s₂, i < n → P i v → p v = true → Asg v s₂.heap → (∀ b o, b ∉ D :: (wr ++ blkAt C own) → s.heap.get? b = some o → s₂.heap.get? b = some o) → s.toks ≤ s₂.toks → (∀ b ∈ D :: (wr ++ blkAt C own), ∃ o, s₂.heap.get? b = some o) →
      wpAny (model prog w) A (eval elt cenv) (fun y s₃ => F (D :: (wr ++ blkAt C own)) v y s₃.heap ∧ Keeps s₂ s₃) (fun _ _ => False) s₂)
    (hwr : ∀ i h, St i h → ∀ b ∈ wr, ∃ o, h.get? b = some o ∧ isIter o = true)
    (hR : ∀ h' tk ys (vs : List Value), Blk C own h' → h'.PlainList D ys → vs.length = n → (∀ j v, vs[j]? = some v → P j v) → Paired (fun v y => F (D :: (wr ++ blkAt C own)) v y h') (vs.filter p) ys.toList →
      (∀ b o, b ∉ D :: (wr ++ blkAt C own) → s.heap.get? b = some o → h'.get? b = some o) → s.toks ≤ tk → R (.ok .next) { s with heap := h', toks := tk })
    (hsz : n ≤ sizeLine) :
    codeAny (model prog w) A (.compLoop (.ListComp elt [⟨target, iter, ifs, 0⟩] scope pos) 0 (.ref I) (.ref D) cenv) R s := by
  refine codeAny_loop rfl
    (fun k s' => ∃ h' tk ys, ∃ vs : List Value, s' = { s with heap := h', toks := tk } ∧ St vs.length h' ∧ h'.PlainList D ys ∧ Blk C own h' ∧ (∀ j v, vs[j]? = some v → P j v) ∧
      Paired (fun v y => F (D :: (wr ++ blkAt C own)) v y h') (vs.filter p) ys.toList ∧ vs.length ≤ n ∧ k = n + 1 - vs.length ∧
      (∀ b o, b ∉ D :: (wr ++ blkAt C own) → s.heap.get? b = some o → h'.get? b = some o) ∧ s.toks ≤ tk) ?_ (n + 1)
    ⟨s.heap, s.toks, #[], [], rfl, hst, hacc, hblk, by simp, by simpa using Paired.nil, Nat.zero_le _, rfl, fun _ _ _ e => e, Nat.le_refl _⟩
  rintro k s' ⟨H, tk, ys, vs, rfl, hst', hacc', hblk', hP, hF, hi, rfl, hk, htk⟩
  show wpAny _ A ((compTurn (.ListComp elt [⟨target, iter, ifs, 0⟩] scope pos) 0 (.ref I) (.ref D) cenv).onRaise (fun x => do noteFrame x cenv; theTreesLotGoes x)) _ _ _
  refine wpAny_noted ?_
  rw [compTurn_list]
  refine wpAny_bind (wpAny_standAt (wpAny_bind ?_))
  have hDw : D ∉ wr := fun h => hDf (W.sub _ h)
  have hbw : ∀ b ∈ blkAt C own, b ∉ wr := fun b hb h => hbf b hb (W.sub _ h)
  have notin : ∀ {b : Addr}, b ∉ D :: (wr ++ blkAt C own) → b ≠ D ∧ b ∉ wr ∧ b ∉ blkAt C own := fun hb => by
    simp only [List.mem_cons, List.mem_append, not_or] at hb
    exact ⟨hb.1, hb.2.1, hb.2.2⟩
  by_cases hlt : vs.length < n
  · refine wpAny_with_toks (n := s.toks) htk (W.item vs.length _ _ _ hlt hst' fun v h₁ tk₁ hPv hst₁ hk₁ htk₁ => ?_)
    have keep₁ : ∀ b o, b ∉ D :: (wr ++ blkAt C own) → s.heap.get? b = some o → h₁.get? b = some o := fun b o hb e => hk₁ b o (notin hb).2.1 (hk b o hb e)
    have hblk₁ : Blk C own h₁ := hblk'.at fun b o hb e => hk₁ b o (hbw b hb) e
    refine wpAny_bind (hgo vs.length v _ _ _ hlt hPv hst₁ ?_)
    refine wpAny_bind (wpAny_any (wpAny_toks_of (n := s.toks) htk₁ (hasg vs.length v _ hlt hPv hblk₁ keep₁ htk₁) |> fun h => wpAny_mono h (fun _ _ x => x) (fun _ _ x => x.2)) (fun _ s₂ h₂ => ?_))
    obtain ⟨htk₂, h₂, tk₂, rfl, hblk₂, hA₂, hk₂⟩ := h₂
    have hst₂ : St (vs.length + 1) h₂ := W.frame _ _ _ hst₁ fun b hb o e => hk₂ b o (fun h => hbf b h hb) e
    have keep₂ : ∀ b o, b ∉ D :: (wr ++ blkAt C own) → s.heap.get? b = some o → h₂.get? b = some o := fun b o hb e => hk₂ b o (notin hb).2.2 (keep₁ b o hb e)
    refine wpAny_bind (wpAny_any (wpAny_toks_of (n := s.toks) htk₂ (htests vs.length v _ hlt hPv hA₂ keep₂ htk₂) |> fun h => wpAny_mono h (fun _ _ x => x) (fun _ _ x => x.2)) (fun ok s₃ h₃ => ?_))
    obtain ⟨htk₃, rfl, h₃, tk₃, rfl, hk₃⟩ := h₃
    have hst₃ : St (vs.length + 1) h₃ := W.frame _ _ _ hst₂ fun b _ o e => hk₃ b o e
    have hacc₃ : h₃.PlainList D ys := hacc'.at fun o e => hk₃ _ o (hk₂ _ o hDb (hk₁ _ o hDw e))
    have hblk₃ : Blk C own h₃ := hblk₂.at fun b o _ e => hk₃ b o e
    have hA₃ : Asg v h₃ := hAk v _ _ hA₂ hk₃
    have keep₃ : ∀ b o, b ∉ D :: (wr ++ blkAt C own) → s.heap.get? b = some o → h₃.get? b = some o := fun b o hb e => hk₃ b o (keep₂ b o hb e)
    have F₃ : Paired (fun v y => F (D :: (wr ++ blkAt C own)) v y h₃) (vs.filter p) ys.toList :=
      hF.mono fun a b hab => hFk a b _ _ hab fun b o hb e => hk₃ b o (hk₂ b o (notin hb).2.2 (hk₁ b o (notin hb).2.1 e))
    have hP' : ∀ j u, (vs ++ [v])[j]? = some u → P j u := fun j u hj => by
      rcases Nat.lt_trichotomy j vs.length with h | h | h
      · exact hP j u (by rwa [List.getElem?_append_left h] at hj)
      · subst h; simp at hj; subst hj; exact hPv
      · have hnone : (vs ++ [v])[j]? = none := List.getElem?_eq_none (by rw [List.length_append, List.length_singleton]; omega)
        rw [hnone] at hj; cases hj
    cases hpv : p v with
    | false =>
      refine wpAny_pure ⟨rfl, n + 1 - (vs.length + 1), by omega, h₃, tk₃, ys, vs ++ [v], rfl, by simpa using hst₃, hacc₃, hblk₃, hP', ?_, (by rw [List.length_append, List.length_singleton]; exact hlt), (by rw [List.length_append, List.length_singleton]), keep₃, htk₃⟩
      rw [List.filter_append]; simpa [hpv] using F₃
    | true =>
      have hin : ∀ b ∈ D :: (wr ++ blkAt C own), ∃ o, h₃.get? b = some o := by
        intro b hb
        rcases List.mem_cons.mp hb with rfl | hb
        · obtain ⟨n', e⟩ := hacc₃; exact ⟨_, e⟩
        · rcases List.mem_append.mp hb with hb | hb
          · obtain ⟨o, e, _⟩ := hwr _ _ hst₃ b hb; exact ⟨_, e⟩
          · rcases List.mem_cons.mp hb with rfl | hb
            · obtain ⟨m, o, _, _, e, _⟩ := hblk₃.1; exact ⟨_, e⟩
            · obtain ⟨⟨n', c⟩, hc, rfl⟩ := List.mem_map.mp hb
              obtain ⟨v', o, e, _⟩ := hblk₃.2 n' c hc; exact ⟨_, e⟩
      refine wpAny_bind (wpAny_bind (wpAny_any (wpAny_toks_of (n := s.toks) htk₃ (helt vs.length v _ hlt hPv hpv hA₃ keep₃ htk₃ hin) |> fun h => wpAny_mono h (fun _ _ x => x) (fun _ _ x => x.2)) (fun y s₄ h₄ => ?_)))
      obtain ⟨htk₄, hFy, h₄, tk₄, rfl, hk₄⟩ := h₄
      have hys : ys.size ≤ sizeLine := by
        have e1 := hF.length
        have e2 : (vs.filter p).length ≤ vs.length := List.length_filter_le _ _
        have e4 : ys.toList.length = ys.size := by simp
        omega
      refine wpAny_bind (wpAny_list_append_plain (hsz := hys) (hacc₃.at fun o e => hk₄ _ o e) fun h₅ hl₅ hs₅ => ?_)
      have up₅ : ∀ b o, b ≠ D → h₃.get? b = some o → h₅.get? b = some o := fun b o hb e => hs₅.extBut b o hb (hk₄ b o e)
      refine wpAny_pure (wpAny_pure ⟨rfl, n + 1 - (vs.length + 1), by omega, h₅, tk₄, ys.push y, vs ++ [v], rfl, ?_, hl₅, hblk₃.at fun b o hb e => up₅ b o (fun h => hDb (h ▸ hb)) e, hP', ?_, (by rw [List.length_append, List.length_singleton]; exact hlt), (by rw [List.length_append, List.length_singleton]),
        fun b o hb e => up₅ b o (notin hb).1 (keep₃ b o hb e), htk₄⟩)
      · have := W.frame _ _ h₅ hst₃ fun b hb o e => up₅ b o (fun h => hDf (h ▸ hb)) e
        simpa using this
      · rw [List.filter_append]
        have F₅ : Paired (fun v y => F (D :: (wr ++ blkAt C own)) v y h₅) (vs.filter p) ys.toList := F₃.mono fun a b hab => hFk a b _ _ hab fun b o hb e => up₅ b o (notin hb).1 e
        have hy₅ : F (D :: (wr ++ blkAt C own)) v y h₅ := hFk v y _ _ hFy fun b o hb e => hs₅.extBut b o (notin hb).1 e
        simpa [hpv] using Paired.snoc F₅ hy₅
  · have hin : vs.length = n := by omega
    refine wpAny_with_toks (n := s.toks) htk (W.done _ _ _ (hin ▸ hst') fun h₁ tk₁ hk₁ htk₁ => wpAny_pure ?_)
    exact hR h₁ tk₁ ys vs (hblk'.at fun b o hb e => hk₁ b o (hbw b hb) e) (hacc'.at fun o e => hk₁ _ o hDw e) hin hP (hF.mono fun a b hab => hFk a b _ _ hab fun b o hb e => hk₁ b o (notin hb).2.1 e) (fun b o hb e => hk₁ b o (notin hb).2.1 (hk b o hb e)) htk₁
end

/-! ## where a block's items come from -/
structure Src (prog : Program) (w : World) (A : Around) (s₁ : Shared) (xv : Value) (n : Nat) (P : Nat → Value → Prop) : Prop where
  it : ∀ (Q : Value → Shared → Prop) (E : Value → Shared → Prop),
    (∀ I fp wr St h₂, Walks prog w A I fp wr n P St → St 0 h₂ → (∀ b ∈ fp, b < h₂.objs.size) → (∀ i h, St i h → ∀ b ∈ wr, ∃ o, h.get? b = some o ∧ isIter o = true) → (∀ b ∈ wr, s₁.heap.get? b = none) → (∀ b ∈ fp, b ∈ wr ∨ ∃ o its n, s₁.heap.get? b = some o ∧ o.data = .seq its n) →
      (∀ b o, s₁.heap.get? b = some o → h₂.get? b = some o) →
      (∀ i (s : Shared) elts x1 pos T (Q : Unit → Shared → Prop) (E : Value → Shared → Prop), St i s.heap → Q () s → wpAny (model prog w) A (letOwnedTupleGo (.Tuple elts x1 pos) (.ref I) (.ref T)) Q E s) →
      Q (.ref I) { s₁ with heap := h₂ }) → wpAny (model prog w) A (pyIter xv) Q E s₁

section
variable {prog : Program} {w : World} {A : Around} {s₁ : Shared}
theorem Src.list (hh : A.handled = none) {ax : Addr} {vs : List Value} (hl : s₁.heap.IsList ax vs.toArray) : Src prog w A s₁ (.ref ax) vs.length (fun i v => vs[i]? = some v) where
  it := fun Q E hQ => by
    have hlt : ax < s₁.heap.objs.size := by obtain ⟨_, e, _⟩ := hl; exact Heap.lt_size e
    refine wpAny_pyIter_list hl ?_
    have W := Walks.list (prog := prog) (w := w) hh s₁.heap.objs.size ax (Nat.ne_of_lt hlt) vs.toArray
    rw [show (fun (i : Nat) v => vs.toArray[i]? = some v) = (fun i v => vs[i]? = some v) by funext i v; simp, show vs.toArray.size = vs.length by simp] at W
    refine hQ s₁.heap.objs.size _ _ _ _ W ⟨⟨_, Heap.get?_push_size _ rfl, rfl, rfl⟩, hl.push _⟩ ?_ ?_ ?_ ?_ ?_ ?_
    · intro b hb
      rw [Heap.size_push]
      rcases List.mem_cons.mp hb with rfl | hb
      · exact Nat.lt_succ_self _
      · rw [List.mem_singleton.mp hb]; exact Nat.lt_succ_of_lt hlt
    · intro i h st b hb
      rw [List.mem_singleton.mp hb]
      obtain ⟨o, ho, hc, _⟩ := st.1; exact ⟨o, ho, by unfold isIter; rw [hc]; decide⟩
    · intro b hb
      rw [List.mem_singleton.mp hb]
      exact fresh_at (keeps_refl _) (Nat.le_refl _)
    · intro b hb
      rcases List.mem_cons.mp hb with rfl | hb
      · exact .inl List.mem_cons_self
      · rw [List.mem_singleton.mp hb]
        obtain ⟨o, ho, _, n, hd⟩ := hl
        exact .inr ⟨o, _, n, ho, hd⟩
    · exact fun b o e => Heap.get?_push_of_some _ e
    · intro i s elts x1 pos T Q E st hq
      exact wpAny_letOwnedTupleGo_listiter st.1 hq

theorem letGo_range {elts : List Expr} {x1} {pos : Pos} {I T : Addr} {a b c : Int} {s : Shared} {E : Value → Shared → Prop} {Q : Unit → Shared → Prop} (hit : IsRangeIter s.heap I a b c) (hQ : Q () s) :
    wpAny (model prog w) A (letOwnedTupleGo (.Tuple elts x1 pos) (.ref I) (.ref T)) Q E s := by
  unfold letOwnedTupleGo
  refine wpAny_bind (wpAny_load hit ?_)
  show wpAny _ A (if (["enumerate", "zip", "dict_itemiterator", "dict_reverseitemiterator", "odict_iterator", "itertools.zip_longest", "itertools.pairwise"].contains "range_iterator" &&
      (#[rawInt a, rawInt b, rawInt c] : Array Value)[0]? == some (rawInt T)) = true then _ else _) Q E s
  rw [if_neg (by
    intro h
    rw [show (["enumerate", "zip", "dict_itemiterator", "dict_reverseitemiterator", "odict_iterator", "itertools.zip_longest", "itertools.pairwise"].contains "range_iterator") = false from by decide, Bool.false_and] at h
    cases h)]
  exact wpAny_pure hQ

theorem Src.range (hh : A.handled = none) {r : Addr} {n : Nat} {t u v : Tok} (hr : IsRange s₁.heap r 0 (n : Int) 1 t u v) (hn : n < 2 ^ 62) : Src prog w A s₁ (.ref r) n (fun i v => ∃ t, v = .int (i : Int) t) where
  it := fun Q E hQ => by
    refine wpAny_pyIter_range hr (small_one (by decide) (by decide) (by omega) (by omega)) ?_
    have W := Walks.range (prog := prog) (w := w) hh s₁.heap.objs.size 0 1 n
    rw [show (fun (i : Nat) (v : Value) => ∃ t, v = Value.int (0 + (i : Int) * 1) t) = (fun (i : Nat) (v : Value) => ∃ t, v = Value.int (i : Int) t) by funext i v; simp] at W
    refine hQ s₁.heap.objs.size _ _ _ _ W ?_ ?_ ?_ ?_ ?_ ?_ ?_
    · show IsRangeIter _ _ _ _ _
      rw [rangeSize_nat]
      simpa using Heap.get?_push_size s₁.heap (o := { cls := .type "range_iterator", data := .fields #[rawInt 0, rawInt (n : Int), rawInt 1] }) rfl
    · intro b hb
      rw [List.mem_singleton.mp hb, Heap.size_push]
      exact Nat.lt_succ_self _
    · intro i h st b hb
      rw [List.mem_singleton.mp hb]
      exact ⟨_, st, rfl⟩
    · intro b hb
      rw [List.mem_singleton.mp hb]
      exact fresh_at (keeps_refl _) (Nat.le_refl _)
    · exact fun b hb => .inl hb
    · exact fun b o e => Heap.get?_push_of_some _ e
    · intro i s elts x1 pos T Q E st hq
      exact letGo_range st hq
end

/-! ## a block as a whole -/
abbrev ownOf (scope : Scope) (C : Addr) : List (Str × Addr) := cellsFrom (C + 1) scope.names []
abbrev lst (ys : Array Value) (n : Nat) : Obj := { cls := .type "list", data := .seq ys n }

def goesBy (target : Expr) (v : Value) : Prop := (∀ it, letOwnedTupleGo target it v = pure ()) ∨ ∃ elts x1 pos T, target = .Tuple elts x1 pos ∧ v = .ref T

section
variable {prog : Program} {w : World} {A : Around} {E : Value → Shared → Prop} {s₀ s : Shared} {env : Env} {m cm : Str → Option Value} {N : List (Addr × Obj)}

theorem comp_any {elt target iter : Expr} {ifs : List Expr} {scope : Scope} {cl : List (Str × Addr)} {pos fpos : Pos} {use : Option (Value → Sem Unit)} {Q : Value → Shared → Prop}
    (p : Value → Bool) (F : List Addr → Value → Value → Heap → Prop) (Asg : Addr → Value → Heap → Prop)
    (hFk : ∀ W v y h h', F W v y h → (∀ b o, b ∉ W → h.get? b = some o → h'.get? b = some o) → F W v y h')
    (hAk : ∀ C v h h', Asg C v h → (∀ b o, h.get? b = some o → h'.get? b = some o) → Asg C v h')
    (hclos : closureFor scope env = pure cl) (hkind : scope.kind = .function)
    (hnames : ∀ y ∈ scope.names, y.2 = .local → scope.names.lookup y.1 = some .local)
    (h : wpAny (model prog w) A (eval iter env) (fun xv s₁ => ∃ n P N₁, Src prog w A s₁ xv n P ∧ n ≤ sizeLine ∧ Ex s₀ env m cm N₁ s₁ ∧
      (∀ i v, i < n → P i v → goesBy target v) ∧
      (∀ C i v s₂, i < n → P i v → Ex s₂ env m cm N₁ s₂ → Blk C (ownOf scope C) s₂.heap →
        wpAny (model prog w) A (assign target (compEnvC scope (ownOf scope C ++ cl) C env) v) (fun _ s₃ => ∃ h' tk, s₃ = { s₂ with heap := h', toks := tk } ∧ Blk C (ownOf scope C) h' ∧ Asg C v h' ∧ ∀ b o, b ∉ blkAt C (ownOf scope C) → s₂.heap.get? b = some o → h'.get? b = some o) (fun _ _ => False) s₂) ∧
      (∀ C i v s₂, i < n → P i v → Ex s₂ env m cm N₁ s₂ → Asg C v s₂.heap →
        wpAny (model prog w) A (tests ifs (compEnvC scope (ownOf scope C ++ cl) C env)) (fun ok s₃ => ok = p v ∧ Keeps s₂ s₃) (fun _ _ => False) s₂) ∧
      (∀ C i v s₂ W, i < n → P i v → p v = true → Ex s₂ env m cm N₁ s₂ → Asg C v s₂.heap → (∀ b ∈ W, ∃ o, s₂.heap.get? b = some o) →
        wpAny (model prog w) A (eval elt (compEnvC scope (ownOf scope C ++ cl) C env)) (fun y s₃ => F W v y s₃.heap ∧ Keeps s₂ s₃) (fun _ _ => False) s₂) ∧
      (∀ D C W ys k s' (vs : List Value), s₁.heap.get? D = none → s₁.heap.get? C = none → D ≠ C → Keeps s₁ s' → Ex s₀ env m cm ((D, lst ys k) :: N₁) s' → (∃ mC, s'.heap.Ns C mC) → vs.length = n → (∀ j v, vs[j]? = some v → P j v) →
        Paired (fun v y => F W v y s'.heap) (vs.filter p) ys.toList → C ∈ W → compPost (model prog w) A E use Q (.ref D) C (.ok .next) s')) E s)
    (hs : ∀ x, foldedSetIterable iter env x = pure x := by intro _; rfl) :
    wpAny (model prog w) A (comprehension (.ListComp elt [⟨target, iter, ifs, 0⟩] scope pos) scope env fpos (newList []) false (eval iter env) use) Q E s := by
  refine wpAny_comprehension_free rfl hs hclos hkind hnames (wpAny_mono h (fun xv s₁ h₁ => ?_) fun _ _ e => e)
  obtain ⟨n, P, N₁, hsrc, hsz, x₁, hgo, hasg, htests, helt, hQ⟩ := h₁
  refine hsrc.it _ _ fun I fp wr St h₂ W hst hfp hwr hwn _ hk₂ hgo' => ?_
  refine wpAny_newObj_type (newCompEnv fun h₁ hns₁ ok₁ hk₁ => ?_)
  dsimp only at hns₁ ok₁ hk₁ ⊢
  generalize hH2 : h₂.push { cls := .type "list", dict := none, data := .seq ([] : List Value).toArray } = H2 at hns₁ ok₁ hk₁ ⊢
  have hC : H2.objs.size = h₂.objs.size + 1 := by rw [← hH2, Heap.size_push]
  generalize hD : h₂.objs.size = D at hfp hC ⊢
  generalize hCC : H2.objs.size = C at hC hns₁ ok₁ ⊢
  have hDH : H2.get? D = some (lst #[] 0) := by rw [← hH2, ← hD]; exact Heap.get?_push_size _ rfl
  have old₁ : ∀ b o, h₂.get? b = some o → h₁.get? b = some o := fun b o e => hk₁ b o (by rw [← hH2]; exact Heap.get?_push_of_some _ e)
  have ownGe : ∀ n c, (n, c) ∈ ownOf scope C → C + 1 ≤ c := fun n c hm => (ok₁.empty n c hm).2
  have blkGe : ∀ (b : Nat), b ∈ blkAt C (ownOf scope C) → C ≤ b := by
    intro b hb
    rcases List.mem_cons.mp hb with rfl | hb
    · exact Nat.le_refl _
    · obtain ⟨⟨n', c⟩, hc, rfl⟩ := List.mem_map.mp hb
      exact Nat.le_of_succ_le (ownGe n' c hc)
  have hs₁le : ∀ b, b ∈ D :: (wr ++ blkAt C (ownOf scope C)) → s₁.heap.get? b = none := by
    have kk : Keeps s₁ { s₁ with heap := h₂ } := ⟨h₂, s₁.toks, rfl, hk₂⟩
    intro b hb
    rcases List.mem_cons.mp hb with rfl | hb
    · exact fresh_at kk (Nat.le_of_eq hD)
    · rcases List.mem_append.mp hb with hb | hb
      · exact hwn b hb
      · exact fresh_at kk (by have := blkGe b hb; show h₂.objs.size ≤ b; omega)
  have hDb : D ∉ blkAt C (ownOf scope C) := fun hb => by have := blkGe D hb; omega
  have hDf : D ∉ fp := fun hb => Nat.lt_irrefl _ (hfp _ hb)
  have hbf : ∀ b ∈ blkAt C (ownOf scope C), b ∉ fp := fun b hb hf => absurd (Nat.lt_of_lt_of_le (hfp b hf) (Nat.le_trans (Nat.le_of_lt (by omega : D < C)) (blkGe b hb))) (Nat.lt_irrefl _)
  have hst₁ : St 0 h₁ := W.frame _ _ _ hst fun b _ o e => old₁ b o e
  have hacc : h₁.PlainList D #[] := ⟨_, hk₁ _ _ hDH⟩
  have hblk : Blk C (ownOf scope C) h₁ := ⟨⟨_, hns₁⟩, fun n c hm => ⟨none, (ok₁.empty n c hm).1⟩⟩
  -- the outer view at any later state
  have view : ∀ s₂ : Shared, (∀ b o, b ∉ D :: (wr ++ blkAt C (ownOf scope C)) → h₁.get? b = some o → s₂.heap.get? b = some o) → s₁.toks ≤ s₂.toks → Ex s₂ env m cm N₁ s₂ := by
    intro s₂ hk ht
    have up : ∀ b o, s₁.heap.get? b = some o → s₂.heap.get? b = some o := fun b o e => hk b o (fun hb => by rw [hs₁le b hb] at e; cases e) (old₁ b o (hk₂ b o e))
    exact ⟨keeps_refl _, x₁.ns.keeps up, fun n c hc => (x₁.cell n c hc).keeps up, fun q hq => up _ _ (x₁.news q hq), x₁.base.keeps up, Nat.lt_of_lt_of_le x₁.tok ht⟩
  have cenvEq : ({ scope := relabel scope env, locals := C, globals := env.globals, cells := cellsFrom (C + 1) scope.names cl, qual := env.qual, func := none, code := env.code, frame := env.frame, builtins := env.builtins } : Env) = compEnvC scope (ownOf scope C ++ cl) C env := by
    rw [cellsFrom_append]; rfl
  have loop : codeAny (model prog w) A (.compLoop (.ListComp elt [⟨target, iter, ifs, 0⟩] scope pos) 0 (.ref I) (.ref D) (compEnvC scope (ownOf scope C ++ cl) C env))
      (compPost (model prog w) A E use Q (.ref D) C) { s₁ with heap := h₁ } := by
    refine compLoop_all (C := C) (own := ownOf scope C) W p F (Asg C) hDb hDf hbf (hFk _) (hAk C) hst₁ hacc hblk ?_ ?_ ?_ ?_ hwr ?_ hsz
    · intro i v s₂ Q' E' hi hP st hq
      rcases hgo i v hi hP with h1 | ⟨elts, x1, ps, T, rfl, rfl⟩
      · exact wpAny_of_eq (h1 _) hq
      · exact hgo' _ _ elts x1 ps T _ _ st hq
    · intro i v s₂ hi hP hb hk ht
      exact hasg C i v s₂ hi hP (view s₂ hk ht) hb
    · intro i v s₂ hi hP hA hk ht
      exact htests C i v s₂ hi hP (view s₂ hk ht) hA
    · intro i v s₂ hi hP hpv hA hk ht hin
      exact helt C i v s₂ _ hi hP hpv (view s₂ hk ht) hA hin
    · intro h' tk ys vs hb hpl hlen hP hF hk ht
      obtain ⟨k, hk'⟩ := hpl
      have up : ∀ b o, s₁.heap.get? b = some o → h'.get? b = some o := fun b o e => hk b o (fun hb => by rw [hs₁le b hb] at e; cases e) (old₁ b o (hk₂ b o e))
      refine hQ D C (D :: (wr ++ blkAt C (ownOf scope C))) ys k _ vs (hs₁le D (by simp)) (hs₁le C (by simp [blkAt])) (Nat.ne_of_lt (by omega : D < C)) ⟨h', tk, rfl, up⟩ ?_ hb.1 hlen hP hF (by simp [blkAt])
      exact (x₁.to ⟨h', tk, rfl, up⟩ (Nat.lt_of_lt_of_le x₁.tok ht)).add hk'
  have fin := codeAny_compStart_list (A := A) loop (W.self 0 _ _ _ hst₁ loop)
  rw [← cenvEq] at fin
  exact fin
end

section
variable {prog : Program} {w : World} {A : Around} {E : Value → Shared → Prop} {s₀ s s₁ s' : Shared} {R : Heap} {env : Env} {m cm : Str → Option Value} {N N₁ : List (Addr × Obj)} {C D : Addr} {o : Obj}

theorem Ex.after {h' : Heap} (x₁ : Ex s₀ env m cm N₁ s₁) (hC : s₁.heap.get? C = none) (k : Keeps s₁ s') (x : Ex s₀ env m cm ((D, o) :: N₁) s') (hDC : D ≠ C) (hs : Heap.SameBut C s'.heap h') :
    Ex s₀ env m cm ((D, o) :: N₁) { s' with heap := h' } := by
  have up : ∀ b o, s₁.heap.get? b = some o → h'.get? b = some o := fun b o e => hs.extBut b o (fun q => by rw [q, hC] at e; cases e) (keeps_get k e)
  have k0 : ∀ b o, s₀.heap.get? b = some o → h'.get? b = some o := fun b o e => up b o (keeps_get x₁.keep e)
  obtain ⟨h, t, rfl, _⟩ := x.keep
  refine ⟨⟨h', t, rfl, k0⟩, x₁.ns.keeps up, fun n c hc => (x₁.cell n c hc).keeps up, fun p hp => ?_, x₁.base.keeps up, x.tok⟩
  rcases List.mem_cons.mp hp with rfl | hp
  · exact hs.extBut _ _ hDC (x.news _ List.mem_cons_self)
  · exact up _ _ (x₁.news p hp)

theorem post_eval {Q : Value → Shared → Prop} (x₁ : Ex s₀ env m cm N₁ s₁) (hC : s₁.heap.get? C = none) (hDC : D ≠ C) (k : Keeps s₁ s') (x : Ex s₀ env m cm ((D, o) :: N₁) s') (hn : ∃ mC, s'.heap.Ns C mC)
    (hQ : ∀ h', Heap.SameBut C s'.heap h' → Ex s₀ env m cm ((D, o) :: N₁) { s' with heap := h' } → Q (.ref D) { s' with heap := h' }) : compPost (model prog w) A E none Q (.ref D) C (.ok .next) s' := by
  obtain ⟨mC, hm⟩ := hn
  exact ⟨mC, hm, fun h' hs => hQ h' hs (x₁.after hC k x hDC hs)⟩

/-- the frame of the statement stands again, the block's names being let go -/
theorem In.after {h' : Heap} {m' cm' : Str → Option Value} {N' : List (Addr × Obj)} (X : In s₀ R env m' cm' N' s') (hb0 : ∀ b o, s₀.heap.get? b = some o → b ≠ C) (hR : ∀ b o, R.get? b = some o → b ≠ C) (hL : env.locals ≠ C) (hcl : ∀ n c, env.cells.lookup n = some c → c ≠ C) (hN : ∀ p ∈ N', p.1 ≠ C)
    (hs : Heap.SameBut C s'.heap h') : In s₀ R env m' cm' N' { s' with heap := h' } := by
  obtain ⟨h, t, rfl, k⟩ := X.keep
  have k0 : ∀ b o, s₀.heap.get? b = some o → h'.get? b = some o := fun b o e => hs.extBut b o (hb0 b o e) (k b o e)
  exact { toEx := ⟨⟨h', t, rfl, k0⟩, X.ns.sameBut hs hL, fun n c hc => (X.cell n c hc).sameBut hs (hcl n c hc), fun p hp => hs.extBut _ _ (hN p hp) (X.news p hp), X.base0.keeps k0, X.tok⟩
          base0 := X.base0, fresh := X.fresh, apart := X.apart, above := X.above, off := X.off, since := fun b o' h1 h2 h3 => hs.extBut b o' (hR b o' h3) (X.since b o' h1 h2 h3) }

theorem ne_of_get {h : Heap} {a b : Addr} {o : Obj} (e : h.get? a = some o) (n : h.get? b = none) : a ≠ b := fun q => by rw [q, n] at e; cases e

theorem post_after {m' cm' : Str → Option Value} {N' : List (Addr × Obj)} {s'' : Shared} (X : In s₀ R env m cm N s) (x₁ : Ex s env m cm N₁ s₁) (hC : s₁.heap.get? C = none) (hn : ∃ mC, s'.heap.Ns C mC)
    (hX : In s₀ s'.heap env m' cm' N' s'') (hR' : ∀ b o, b ≠ env.locals → (∀ n c, env.cells.lookup n = some c → b ≠ c) → R.get? b = some o → s'.heap.get? b = some o) (hN : ∀ p ∈ N', p.1 ≠ C) :
    ∃ mC, s''.heap.Ns C mC ∧ ∀ h', Heap.SameBut C s''.heap h' → In s₀ R env m' cm' N' { s'' with heap := h' } := by
  have hLC : env.locals ≠ C := by obtain ⟨o', _, _, ho, _⟩ := x₁.ns; exact ne_of_get ho hC
  have hcl : ∀ n c, env.cells.lookup n = some c → c ≠ C := fun n c hc => by obtain ⟨o', ho, _⟩ := x₁.cell n c hc; exact ne_of_get ho hC
  obtain ⟨mC, hm⟩ := hn
  refine ⟨mC, hm.at' fun o e => hX.since C o hLC.symm (fun n c hc => (hcl n c hc).symm) e, fun h' hs => ?_⟩
  have X2 : In s₀ R env m' cm' N' s'' := { hX with since := fun b o h1 h2 h3 => hX.since b o h1 h2 (hR' b o h1 h2 h3) }
  refine X2.after (fun b o e => ne_of_get (keeps_get x₁.keep (keeps_get X.keep e)) hC) (fun b o e q => ?_) hLC hcl hN hs
  subst q
  exact absurd rfl (ne_of_get (keeps_get x₁.keep (X.since b o hLC.symm (fun n c hc => (hcl n c hc).symm) e)) hC)

theorem post_assignL {y : Str} {py : Pos} {Q : Flow → Shared → Prop} (X : In s₀ R env m cm N s)
    (x₁ : Ex s env m cm N₁ s₁) (hD : s₁.heap.get? D = none) (hC : s₁.heap.get? C = none) (hDC : D ≠ C) (x : Ex s env m cm ((D, o) :: N₁) s') (hn : ∃ mC, s'.heap.Ns C mC)
    (hf : ∀ p ∈ N₁, p ∈ N ∨ s.heap.get? p.1 = none) (hk : env.scope.kind = .function) (hl : env.kindOf y = some .local)
    (hQ : ∀ s'', In s₀ R env (upd m y (.ref D)) cm ((D, o) :: N₁) s'' → Q .next s'') : compPost (model prog w) A E (some (assign (.Name y py) env)) (fun _ s'' => Q .next s'') (.ref D) C (.ok .next) s' := by
  have hDn : s.heap.get? D = none := by
    cases e : s.heap.get? D with
    | none => rfl
    | some o' => rw [keeps_get x₁.keep e] at hD; cases hD
  have X1 : In s₀ R env m cm ((D, o) :: N₁) s' := X.of x fun p hp => by
    rcases List.mem_cons.mp hp with rfl | hp
    · exact .inr hDn
    · exact hf p hp
  refine wpAny_assign_Name (X1.rebase.stL hk hl fun s'' X'' => ?_)
  obtain ⟨mC, hm, hh⟩ := post_after X x₁ hC hn X'' X1.since (fun p hp => by
    rcases List.mem_cons.mp hp with rfl | hp
    · exact hDC
    · exact ne_of_get (x₁.news p hp) hC)
  exact ⟨mC, hm, fun h' hs => hQ _ (hh h' hs)⟩
theorem post_assignC {y : Str} {py : Pos} {c : Addr} {Q : Flow → Shared → Prop} (X : In s₀ R env m cm N s)
    (x₁ : Ex s env m cm N₁ s₁) (hD : s₁.heap.get? D = none) (hC : s₁.heap.get? C = none) (hDC : D ≠ C) (x : Ex s env m cm ((D, o) :: N₁) s') (hn : ∃ mC, s'.heap.Ns C mC)
    (hf : ∀ p ∈ N₁, p ∈ N ∨ s.heap.get? p.1 = none) (hk : env.scope.kind = .function) (hl : env.kindOf y = some .cell) (hc : env.cells.lookup y = some c)
    (hQ : ∀ s'', In s₀ R env m (upd cm y (.ref D)) ((D, o) :: N₁) s'' → Q .next s'') : compPost (model prog w) A E (some (assign (.Name y py) env)) (fun _ s'' => Q .next s'') (.ref D) C (.ok .next) s' := by
  have hDn : s.heap.get? D = none := by
    cases e : s.heap.get? D with
    | none => rfl
    | some o' => rw [keeps_get x₁.keep e] at hD; cases hD
  have X1 : In s₀ R env m cm ((D, o) :: N₁) s' := X.of x fun p hp => by
    rcases List.mem_cons.mp hp with rfl | hp
    · exact .inr hDn
    · exact hf p hp
  refine wpAny_assign_Name (X1.rebase.stC hk hl hc fun s'' X'' => ?_)
  obtain ⟨mC, hm, hh⟩ := post_after X x₁ hC hn X'' X1.since (fun p hp => by
    rcases List.mem_cons.mp hp with rfl | hp
    · exact hDC
    · exact ne_of_get (x₁.news p hp) hC)
  exact ⟨mC, hm, fun h' hs => hQ _ (hh h' hs)⟩
end
end Mine

namespace Mine

theorem ownOf_nil {scope : Scope} (hcell : ∀ y ∈ scope.names, y.2 ≠ .cell) (C : Addr) : ownOf scope C = [] := by
  have : ∀ (names : List (Str × NameKind)) (n : Nat), (∀ y ∈ names, y.2 ≠ .cell) → cellsFrom n names [] = [] := by
    intro names
    induction names with
    | nil => intro n _; rfl
    | cons a r ih =>
      intro n h
      obtain ⟨x, k⟩ := a
      have hk : (k == NameKind.cell) = false := by have := h (x, k) List.mem_cons_self; simpa using this
      unfold cellsFrom
      rw [hk]
      exact ih n fun y hy => h y (List.mem_cons_of_mem _ hy)
  exact this _ _ hcell

section
variable {prog : Program} {w : World} {A : Around} {E : Value → Shared → Prop} {s₀ s : Shared} {R : Heap} {env : Env} {m cm : Str → Option Value} {N : List (Addr × Obj)}

theorem eval_of_comp {elt iter target : Expr} {ifs : List Expr} {scope : Scope} {pos : Pos} {Q : Value → Shared → Prop}
    (h : wpAny (model prog w) A (comprehension (.ListComp elt [⟨target, iter, ifs, 0⟩] scope pos) scope env (firstIterPos [⟨target, iter, ifs, 0⟩] pos) (newList []) false (eval iter env) none) Q E s) :
    wpAny (model prog w) A (eval (.ListComp elt [⟨target, iter, ifs, 0⟩] scope pos) env) Q E s := by
  rw [eval_ListComp]; exact h
theorem assign_of_comp {elt iter target : Expr} {ifs : List Expr} {scope : Scope} {y : Str} {py pos spos : Pos} {Q : Flow → Shared → Prop}
    (h : wpAny (model prog w) A (comprehension (.ListComp elt [⟨target, iter, ifs, 0⟩] scope pos) scope env (firstIterPos [⟨target, iter, ifs, 0⟩] pos) (newList []) false (eval iter env) (some (assign (.Name y py) env))) (fun _ s' => Q .next s') E s)
    (hsw : swapsWith (.ListComp elt [⟨target, iter, ifs, 0⟩] scope pos) (some (.Name y py)) spos.line env = pure true := by rfl) :
    wpAny (model prog w) A (exec (.Assign [.Name y py] (.ListComp elt [⟨target, iter, ifs, 0⟩] scope pos) spos) env) Q E s := by
  rw [exec_Assign_Name_used _ _ _ _ hsw]
  refine wpAny_bind (wpAny_standAt (wpAny_bind ?_))
  show wpAny _ A (do let _ ← comprehension (.ListComp elt [⟨target, iter, ifs, 0⟩] scope pos) scope env _ (newList []) false (eval iter env) (some (assign (.Name y py) env))) _ _ s
  exact wpAny_bind (wpAny_mono h (fun _ s' hq => wpAny_pure (wpAny_pure hq)) fun _ _ e => e)

theorem Ex.inner {s₂ : Shared} {scope : Scope} {cells : List (Str × Addr)} {C : Addr} {mC cm' : Str → Option Value} (X : Ex s₂ env m cm N s₂) (hns : s₂.heap.Ns C mC) (hcell : ∀ n c, cells.lookup n = some c → s₂.heap.IsCell c (cm' n)) :
    Ex s₂ (compEnvC scope cells C env) mC cm' N s₂ := ⟨keeps_refl _, hns, hcell, X.news, X.base, X.tok⟩

/-- the block's target is made of names of its own -/
theorem comp_names {elt target iter : Expr} {ifs : List Expr} {scope : Scope} {cl : List (Str × Addr)} {pos fpos : Pos} {use : Option (Value → Sem Unit)} {Q : Value → Shared → Prop}
    (p : Value → Bool) (F : List Addr → Value → Value → Heap → Prop) (G : Value → (Str → Option Value) → Prop)
    (hFk : ∀ W v y h h', F W v y h → (∀ b o, b ∉ W → h.get? b = some o → h'.get? b = some o) → F W v y h')
    (hclos : closureFor scope env = pure cl) (hcell : ∀ y ∈ scope.names, y.2 ≠ .cell) (hkind : scope.kind = .function)
    (hnames : ∀ y ∈ scope.names, y.2 = .local → scope.names.lookup y.1 = some .local) (hsub : ∀ n c, cl.lookup n = some c → env.cells.lookup n = some c)
    (h : wpAny (model prog w) A (eval iter env) (fun xv s₁ => ∃ n P N₁, Src prog w A s₁ xv n P ∧ n ≤ sizeLine ∧ Ex s₀ env m cm N₁ s₁ ∧
      (∀ i v, i < n → P i v → goesBy target v) ∧
      (∀ C i v s₂ mC, i < n → P i v → Ex s₂ env m cm N₁ s₂ → s₂.heap.Ns C mC →
        wpAny (model prog w) A (assign target (compEnvC scope cl C env) v) (fun _ s₃ => ∃ h' tk mC', s₃ = { s₂ with heap := h', toks := tk } ∧ h'.Ns C mC' ∧ G v mC' ∧ ∀ b o, b ≠ C → s₂.heap.get? b = some o → h'.get? b = some o) (fun _ _ => False) s₂) ∧
      (∀ C i v s₂ mC, i < n → P i v → G v mC → Ex s₂ (compEnvC scope cl C env) mC cm N₁ s₂ →
        wpAny (model prog w) A (tests ifs (compEnvC scope cl C env)) (fun ok s₃ => ok = p v ∧ Keeps s₂ s₃) (fun _ _ => False) s₂) ∧
      (∀ C i v s₂ W mC, i < n → P i v → p v = true → G v mC → Ex s₂ (compEnvC scope cl C env) mC cm N₁ s₂ → (∀ b ∈ W, ∃ o, s₂.heap.get? b = some o) →
        wpAny (model prog w) A (eval elt (compEnvC scope cl C env)) (fun y s₃ => F W v y s₃.heap ∧ Keeps s₂ s₃) (fun _ _ => False) s₂) ∧
      (∀ D C W ys k s' (vs : List Value), s₁.heap.get? D = none → s₁.heap.get? C = none → D ≠ C → Keeps s₁ s' → Ex s₀ env m cm ((D, lst ys k) :: N₁) s' → (∃ mC, s'.heap.Ns C mC) → vs.length = n → (∀ j v, vs[j]? = some v → P j v) →
        Paired (fun v y => F W v y s'.heap) (vs.filter p) ys.toList → C ∈ W → compPost (model prog w) A E use Q (.ref D) C (.ok .next) s')) E s)
    (hs : ∀ x, foldedSetIterable iter env x = pure x := by intro _; rfl) :
    wpAny (model prog w) A (comprehension (.ListComp elt [⟨target, iter, ifs, 0⟩] scope pos) scope env fpos (newList []) false (eval iter env) use) Q E s := by
  refine comp_any (s₀ := s₀) (m := m) (cm := cm) p F (fun C v h => ∃ mC, h.Ns C mC ∧ G v mC) hFk (fun C v h h' ⟨mC, h1, h2⟩ k => ⟨mC, h1.keeps k, h2⟩) hclos hkind hnames (wpAny_mono h (fun xv s₁ h₁ => ?_) fun _ _ e => e) hs
  obtain ⟨n, P, N₁, hsrc, hsz, x₁, hgo, hasg, htests, helt, hQ⟩ := h₁
  refine ⟨n, P, N₁, hsrc, hsz, x₁, hgo, ?_, ?_, ?_, hQ⟩
  · intro C i v s₂ hi hP X hb
    rw [ownOf_nil hcell C, List.nil_append]
    obtain ⟨mC, hm⟩ := hb.1
    refine wpAny_mono (hasg C i v s₂ mC hi hP X hm) (fun _ s₃ h₃ => ?_) fun _ _ e => e
    obtain ⟨h', tk, mC', rfl, hn, hG, hk⟩ := h₃
    exact ⟨h', tk, rfl, ⟨⟨mC', hn⟩, fun n c hc => by cases hc⟩, ⟨mC', hn, hG⟩, fun b o hb e => hk b o (fun q => hb (q ▸ List.mem_cons_self)) e⟩
  · intro C i v s₂ hi hP X hA
    rw [ownOf_nil hcell C, List.nil_append]
    obtain ⟨mC, hm, hG⟩ := hA
    exact htests C i v s₂ mC hi hP hG (X.inner hm fun n c hc => X.cell n c (hsub n c hc))
  · intro C i v s₂ W hi hP hp X hA hW
    rw [ownOf_nil hcell C, List.nil_append]
    obtain ⟨mC, hm, hG⟩ := hA
    exact helt C i v s₂ W mC hi hP hp hG (X.inner hm fun n c hc => X.cell n c (hsub n c hc)) hW

/-- the target is one name of the block's own; the elements hold no object -/
theorem comp_local {elt iter : Expr} {x : Str} {px : Pos} {ifs : List Expr} {scope : Scope} {cl : List (Str × Addr)} {pos fpos : Pos} {use : Option (Value → Sem Unit)} {Q : Value → Shared → Prop}
    (p : Value → Bool) (F : Value → Value → Prop)
    (hclos : closureFor scope env = pure cl) (hcell : ∀ y ∈ scope.names, y.2 ≠ .cell) (hkind : scope.kind = .function)
    (hnames : ∀ y ∈ scope.names, y.2 = .local → scope.names.lookup y.1 = some .local) (hsub : ∀ n c, cl.lookup n = some c → env.cells.lookup n = some c) (hx : scope.names.lookup x = some .local)
    (h : wpAny (model prog w) A (eval iter env) (fun xv s₁ => ∃ n P N₁, Src prog w A s₁ xv n P ∧ n ≤ sizeLine ∧ Ex s₀ env m cm N₁ s₁ ∧
      (∀ C i v s₂ mC, i < n → P i v → mC x = some v → Ex s₂ (compEnvC scope cl C env) mC cm N₁ s₂ →
        wpAny (model prog w) A (tests ifs (compEnvC scope cl C env)) (fun ok s₃ => ok = p v ∧ Keeps s₂ s₃) (fun _ _ => False) s₂) ∧
      (∀ C i v s₂ mC, i < n → P i v → p v = true → mC x = some v → Ex s₂ (compEnvC scope cl C env) mC cm N₁ s₂ →
        wpAny (model prog w) A (eval elt (compEnvC scope cl C env)) (fun y s₃ => F v y ∧ Keeps s₂ s₃) (fun _ _ => False) s₂) ∧
      (∀ D C ys k s' (vs : List Value), s₁.heap.get? D = none → s₁.heap.get? C = none → D ≠ C → Keeps s₁ s' → Ex s₀ env m cm ((D, lst ys k) :: N₁) s' → (∃ mC, s'.heap.Ns C mC) → vs.length = n → (∀ j v, vs[j]? = some v → P j v) →
        Paired F (vs.filter p) ys.toList → compPost (model prog w) A E use Q (.ref D) C (.ok .next) s')) E s)
    (hs : ∀ x, foldedSetIterable iter env x = pure x := by intro _; rfl) :
    wpAny (model prog w) A (comprehension (.ListComp elt [⟨.Name x px, iter, ifs, 0⟩] scope pos) scope env fpos (newList []) false (eval iter env) use) Q E s := by
  refine comp_names (s₀ := s₀) (m := m) (cm := cm) p (fun _ v y _ => F v y) (fun v mC => mC x = some v) (fun _ _ _ _ _ h _ => h) hclos hcell hkind hnames hsub (wpAny_mono h (fun xv s₁ h₁ => ?_) fun _ _ e => e) hs
  obtain ⟨n, P, N₁, hsrc, hsz, x₁, htests, helt, hQ⟩ := h₁
  refine ⟨n, P, N₁, hsrc, hsz, x₁, fun _ _ _ _ => .inl fun _ => rfl, ?_, htests, fun C i v s₂ W mC hi hP hp hG X _ => helt C i v s₂ mC hi hP hp hG X, fun D C W ys k s' vs h1 h2 h3 h4 h5 h6 h7 h8 h9 _ => hQ D C ys k s' vs h1 h2 h3 h4 h5 h6 h7 h8 h9⟩
  intro C i v s₂ mC hi hP X hm
  refine wpAny_assign_Name (wpAny_storeName_local (env := compEnvC scope cl C env) (lookup_relabel_local hx) hm (fun h' hn hs' => ?_) (by simp [compEnvC, relabel, hkind]))
  exact ⟨h', _, _, rfl, hn, by simp, fun b o hb e => hs'.extBut b o hb e⟩

/-- the target is a cell of the block's own -/
theorem comp_cell {elt iter : Expr} {x : Str} {px : Pos} {ifs : List Expr} {scope : Scope} {cl : List (Str × Addr)} {pos fpos : Pos} {use : Option (Value → Sem Unit)} {Q : Value → Shared → Prop}
    (p : Value → Bool) (F : Value → Value → Prop)
    (hclos : closureFor scope env = pure cl) (hown : ∀ C, ownOf scope C = [(x, C + 1)]) (hkind : scope.kind = .function)
    (hnames : ∀ y ∈ scope.names, y.2 = .local → scope.names.lookup y.1 = some .local) (hsub : ∀ n c, cl.lookup n = some c → env.cells.lookup n = some c) (hx : (relabel scope env).names.lookup x = some .cell)
    (h : wpAny (model prog w) A (eval iter env) (fun xv s₁ => ∃ n P N₁, Src prog w A s₁ xv n P ∧ n ≤ sizeLine ∧ Ex s₀ env m cm N₁ s₁ ∧
      (∀ C i v s₂ mC, i < n → P i v → Ex s₂ (compEnvC scope ((x, C + 1) :: cl) C env) mC (upd cm x v) N₁ s₂ →
        wpAny (model prog w) A (tests ifs (compEnvC scope ((x, C + 1) :: cl) C env)) (fun ok s₃ => ok = p v ∧ Keeps s₂ s₃) (fun _ _ => False) s₂) ∧
      (∀ C i v s₂ mC, i < n → P i v → p v = true → Ex s₂ (compEnvC scope ((x, C + 1) :: cl) C env) mC (upd cm x v) N₁ s₂ →
        wpAny (model prog w) A (eval elt (compEnvC scope ((x, C + 1) :: cl) C env)) (fun y s₃ => F v y ∧ Keeps s₂ s₃) (fun _ _ => False) s₂) ∧
      (∀ D C ys k s' (vs : List Value), s₁.heap.get? D = none → s₁.heap.get? C = none → D ≠ C → Keeps s₁ s' → Ex s₀ env m cm ((D, lst ys k) :: N₁) s' → (∃ mC, s'.heap.Ns C mC) → vs.length = n → (∀ j v, vs[j]? = some v → P j v) →
        Paired F (vs.filter p) ys.toList → compPost (model prog w) A E use Q (.ref D) C (.ok .next) s')) E s)
    (hs : ∀ x, foldedSetIterable iter env x = pure x := by intro _; rfl) :
    wpAny (model prog w) A (comprehension (.ListComp elt [⟨.Name x px, iter, ifs, 0⟩] scope pos) scope env fpos (newList []) false (eval iter env) use) Q E s := by
  have inner : ∀ {C : Addr} {v : Value} {s₂ : Shared} {N₁ : List (Addr × Obj)}, Ex s₂ env m cm N₁ s₂ → (∃ mC, s₂.heap.Ns C mC) → s₂.heap.IsCell (C + 1) (some v) → ∃ mC, Ex s₂ (compEnvC scope ((x, C + 1) :: cl) C env) mC (upd cm x v) N₁ s₂ := by
    rintro C v s₂ N₁ X ⟨mC, hm⟩ hc
    refine ⟨mC, X.inner hm fun n c hl => ?_⟩
    rw [List.lookup_cons] at hl
    by_cases hn : n = x
    · subst hn
      simp only [beq_self_eq_true] at hl
      cases hl
      simpa [upd] using hc
    · rw [show (n == x) = false by simpa using hn] at hl
      simpa [upd, hn] using X.cell n c (hsub n c hl)
  refine comp_any (s₀ := s₀) (m := m) (cm := cm) p (fun _ v y _ => F v y) (fun C v h => (∃ mC, h.Ns C mC) ∧ h.IsCell (C + 1) (some v)) (fun _ _ _ _ _ h _ => h) (fun C v h h' ⟨⟨mC, h1⟩, h2⟩ k => ⟨⟨mC, h1.keeps k⟩, h2.keeps k⟩) hclos hkind hnames (wpAny_mono h (fun xv s₁ h₁ => ?_) fun _ _ e => e) hs
  obtain ⟨n, P, N₁, hsrc, hsz, x₁, htests, helt, hQ⟩ := h₁
  refine ⟨n, P, N₁, hsrc, hsz, x₁, fun _ _ _ _ => .inl fun _ => rfl, ?_, ?_, ?_, fun D C W ys k s' vs h1 h2 h3 h4 h5 h6 h7 h8 h9 _ => hQ D C ys k s' vs h1 h2 h3 h4 h5 h6 h7 h8 h9⟩
  · intro C i v s₂ hi hP X hb
    rw [hown C] at hb ⊢
    obtain ⟨v₀, hv₀⟩ := hb.2 x (C + 1) List.mem_cons_self
    obtain ⟨mC, hm⟩ := hb.1
    refine wpAny_assign_Name (wpAny_storeName_cell (env := compEnvC scope ([(x, C + 1)] ++ cl) C env) (by simp [compEnvC, relabel, hkind]) hx (c := C + 1) (by simp [compEnvC]) hv₀ fun h' hv hs' => ?_)
    refine ⟨h', s₂.toks, rfl, ⟨⟨mC, hm.sameBut hs' (Nat.ne_of_lt (Nat.lt_succ_self _))⟩, fun n c hc => ?_⟩, ⟨⟨mC, hm.sameBut hs' (Nat.ne_of_lt (Nat.lt_succ_self _))⟩, hv⟩, fun b o hb e => hs'.extBut b o (fun q => hb (by rw [q]; simp [blkAt])) e⟩
    rw [List.mem_singleton] at hc
    cases hc
    exact ⟨_, hv⟩
  · intro C i v s₂ hi hP X hA
    rw [hown C]
    obtain ⟨mC, X'⟩ := inner X hA.1 hA.2
    exact htests C i v s₂ mC hi hP X'
  · intro C i v s₂ W hi hP hp X hA hW
    rw [hown C]
    obtain ⟨mC, X'⟩ := inner X hA.1 hA.2
    exact helt C i v s₂ mC hi hP hp X'
end
end Mine

namespace Mine

theorem replaced_len (x y z : Str) : (Txt.replace x y z).length ≤ x.length + (x.length + 1) * z.length := by
  unfold Txt.replace
  split
  · exact Nat.le_add_right _ _
  · have h1 := StrLaws.occ_length_le x y 0 x.length (x.length + 1)
    have hy : (Builtin.Str.glued y (Builtin.Str.partsBetween x (Builtin.Str.occurrences x y 0 x.length (x.length + 1)) y.length)).length = x.length := by rw [StrLaws.glued_between_self]
    rw [size_glued, length_partsBetween, Nat.add_sub_cancel] at hy
    rw [size_glued, length_partsBetween, Nat.add_sub_cancel]
    have h2 : (Builtin.Str.occurrences x y 0 x.length (x.length + 1)).length * z.length ≤ (x.length + 1) * z.length := Nat.mul_le_mul_right _ h1
    omega

section
variable {prog : Program} {w : World} {A : Around} {E : Value → Shared → Prop} {s₀ s : Shared} {env : Env} {m cm : Str → Option Value} {N : List (Addr × Obj)}

theorem spliced2 {x y : Sem Value} {Q : List Value → Shared → Prop}
    (h : wpAny (model prog w) A x (fun a s₁ => wpAny (model prog w) A y (fun b s₂ => Q [a, b] s₂) E s₁) E s) : wpAny (model prog w) A (spliced [(false, x), (false, y)]) Q E s :=
  Calls.spliced_cons (wpAny_mono h (fun _ _ h₁ => Calls.spliced_cons (wpAny_mono h₁ (fun _ _ h₂ => Calls.spliced_nil h₂) fun _ _ e => e)) fun _ _ e => e)
theorem spliced1 {x : Sem Value} {Q : List Value → Shared → Prop}
    (h : wpAny (model prog w) A x (fun a s₁ => Q [a] s₁) E s) : wpAny (model prog w) A (spliced [(false, x)]) Q E s :=
  Calls.spliced_cons (wpAny_mono h (fun _ _ h₁ => Calls.spliced_nil h₁) fun _ _ e => e)

/-- o.replace(y, z), o any expression that gives a text -/
theorem Ex.replace_ {o y z : Expr} {ap pos : Pos} {Q : Value → Shared → Prop}
    (hbase : attributeBase o "replace" env (eval o env) = eval o env) (hline : (ap.endLine == pos.line) = true)
    (htr : backTo pos (starEach [y, z] env) = [(false, eval y env), (false, eval z env)])
    (h : wpAny (model prog w) A (eval o env) (fun ov s₁ => ∃ x t, ov = .str x t ∧ wpAny (model prog w) A (eval y env) (fun yv s₂ => wpAny (model prog w) A (eval z env) (fun zv s₃ =>
      ∃ ys u zs v, yv = .str ys u ∧ zv = .str zs v ∧ u ≠ 0 ∧ v ≠ 0 ∧ u ≠ v ∧ (ys == zs) = false ∧ x.length + (x.length + 1) * zs.length ≤ 16777216 ∧ Ex s₀ env m cm N s₃ ∧
        (∀ t' s', Ex s₀ env m cm N s' → Q (.str (Txt.replace x ys zs) t') s')) E s₂) E s₁) E s) :
    wpAny (model prog w) A (eval (.Call (.Attribute o "replace" ap) [y, z] [] pos) env) Q E s := by
  refine wpAny_Call_method (T := "str") (id := "str.replace") hbase (by rw [htr]; rfl) hline F.plainAttrs_str F.slot_str_replace F.type_str_replace (wpAny_mono h (fun ov s₁ h₁ => ?_) fun _ _ e => e)
  obtain ⟨x, t, rfl, h₁⟩ := h₁
  refine ⟨typeIs_str _ _ _, (fun a e => by cases e), ?_⟩
  rw [htr]
  refine Calls.callWith_builtin rfl (Calls.evalArgs_plain (spliced2 (wpAny_mono h₁ (fun yv s₂ h₂ => wpAny_mono h₂ (fun zv s₃ h₃ => ?_) fun _ _ e => e) fun _ _ e => e)))
  obtain ⟨ys, u, zs, v, rfl, rfl, hu, hv, huv, hyz, hb, X, hq⟩ := h₃
  refine X.step (P := fun v s' => ∃ t', v = .str (Txt.replace x ys zs) t') ?_ (fun v s' hv _ X' => by obtain ⟨t', rfl⟩ := hv; exact hq t' s' X')
  exact SC.replace hu hv huv hyz hb fun t' k => ⟨⟨t', rfl⟩, keeps_tok _ _⟩
end
end Mine

namespace Mine

/-! ## dicts by their entries -/
def keyOf (e : DictEntry) : Str := match e.key with | .str k _ => k | _ => Str.empty
def GoodE (w : World) (e : DictEntry) : Prop := ∃ k u, e.key = .str k u ∧ e.hash = hashStr w k
structure SD (w : World) (h : Heap) (d : Addr) (es : List DictEntry) : Prop where
  get : ∃ ep, h.get? d = some { cls := .type "dict", data := .dict es.toArray ep }
  keys : ∀ e ∈ es, GoodE w e
  nodup : (es.map keyOf).Nodup

section
variable {prog : Program} {w : World} {A : Around} {E : Value → Shared → Prop} {s : Shared} {d : Addr} {es : List DictEntry}

theorem SD.at {h h' : Heap} (x : SD w h d es) (k : ∀ o, h.get? d = some o → h'.get? d = some o) : SD w h' d es := ⟨let ⟨ep, e⟩ := x.get; ⟨ep, k _ e⟩, x.keys, x.nodup⟩
theorem SD.typeIs (x : SD w s.heap d es) : s.TypeIs (.ref d) "dict" := let ⟨_, e⟩ := x.get; ⟨_, e, rfl⟩
theorem GoodE.is {e : DictEntry} (g : GoodE w e) : (strKind prog w).is (keyOf e) e.key = true ∧ e.hash = (strKind prog w).hash (keyOf e) := by
  obtain ⟨k, u, h1, h2⟩ := g
  have : keyOf e = k := by unfold keyOf; rw [h1]
  rw [this, h1, h2]
  exact ⟨strKind_is prog w k u, rfl⟩
theorem SD.keysOf (x : SD w s.heap d es) : KeysOf (strKind prog w) es.toArray := by
  intro e he
  have := (x.keys e (by simpa using he)).is (prog := prog)
  exact ⟨keyOf e, this.1, this.2⟩
theorem pairs_of : ∀ {es : List DictEntry}, (∀ e ∈ es, GoodE w e) → Pairs (strKind prog w) es (es.map fun e => (keyOf e, e.val))
  | [], _ => .nil
  | e :: r, h => by
    have := (h e List.mem_cons_self).is (prog := prog)
    exact .cons this.1 rfl (pairs_of fun x hx => h x (List.mem_cons_of_mem _ hx))
theorem SD.dictOf (x : SD w s.heap d es) : s.heap.DictOf (strKind prog w) d (es.map fun e => (keyOf e, e.val)) := by
  obtain ⟨ep, e⟩ := x.get
  exact ⟨_, _, ep, e, ⟨rfl, rfl, rfl⟩, rfl, x.keysOf, by simpa using pairs_of x.keys, by rw [List.map_map]; exact x.nodup⟩

theorem find_none (x : SD w s.heap d es) {k : Str} (hk : k ∉ es.map keyOf) : (es.toArray.findIdx? fun e => (strKind prog w).is k e.key) = none := by
  rw [Array.findIdx?_eq_none_iff]
  intro e he
  have he' : e ∈ es := by simpa using he
  cases h : (strKind prog w).is k e.key with
  | false => rfl
  | true =>
    have h2 := ((x.keys e he').is (prog := prog)).1
    exact absurd (List.mem_map.mpr ⟨e, he', ((strKind prog w).inj _ _ _ h2 h)⟩) hk

theorem SD.grow {e : DictEntry} {ep : Nat} (x : SD w s.heap d es) (ho : s.heap.get? d = some { cls := .type "dict", data := .dict es.toArray ep }) (hg : GoodE w e) (hk : keyOf e ∉ es.map keyOf) :
    SD w (s.heap.update d (Obj.mapDictKeys (·.push e))) d (es ++ [e]) where
  get := ⟨ep + 1, by
    rw [Heap.get?_update_self _ ho (Obj.isFreed_of_dict (Obj.data_mapDictKeys rfl _))]
    simp [Obj.mapDictKeys]⟩
  keys := fun y hy => by
    rcases List.mem_append.mp hy with hy | hy
    · exact x.keys y hy
    · rw [List.mem_singleton.mp hy]; exact hg
  nodup := by
    rw [List.map_append, List.nodup_append]
    refine ⟨x.nodup, by simp, fun a ha b hb q => ?_⟩
    simp only [List.map_cons, List.map_nil, List.mem_singleton] at hb
    exact hk (hb ▸ q ▸ ha)

theorem dictSet_new {k : Str} {t : Tok} {v : Value} {Q : Unit → Shared → Prop} (x : SD w s.heap d es) (hk : k ∉ es.map keyOf) (hsz : es.length ≤ sizeLine)
    (hQ : ∀ h', SD w h' d (es ++ [⟨hashStr w k, .str k t, v⟩]) → Heap.SameBut d s.heap h' → Q () { s with heap := h', toks := s.toks + 1 }) :
    wpAny (model prog w) A (dictSet d (.str k t) v) Q E s := by
  obtain ⟨ep, ho⟩ := x.get
  unfold dictSet
  try with_reducible refine wpAny_holding ?_
  refine wpAny_bind ((strKind prog w).pyHash (k := k) (strKind_is prog w k t) ?_)
  unfold dictSetHashed
  try with_reducible refine wpAny_holding ?_
  refine wpAny_bind (wpAny_dictFind_of (knd := strKind prog w) (s := { s with toks := s.toks + 1 }) (strKind_is prog w k t) ho rfl x.keysOf ?_)
  rw [find_none x hk]
  refine wpAny_bind (wpAny_rule (wpAny_updateDictKeys (hz := by simpa using hsz) ho rfl (hQ _ ?_ (Heap.SameBut.update ..))))
  exact x.grow ho ⟨k, t, rfl, rfl⟩ hk
theorem dictPut_new {e : DictEntry} {Q : Unit → Shared → Prop} (x : SD w s.heap d es) (hg : GoodE w e) (hk : keyOf e ∉ es.map keyOf) (hsz : es.length ≤ sizeLine)
    (hQ : ∀ h', SD w h' d (es ++ [e]) → Heap.SameBut d s.heap h' → Q () { s with heap := h' }) :
    wpAny (model prog w) A (dictPut d e.hash e.key e.val) Q E s := by
  obtain ⟨ep, ho⟩ := x.get
  unfold dictPut
  have hi := hg.is (prog := prog)
  rw [hi.2]
  refine wpAny_bind (wpAny_dictFind_of (knd := strKind prog w) hi.1 ho rfl x.keysOf ?_)
  rw [find_none x hk]
  refine wpAny_updateDictKeys (hz := by simpa using hsz) ho rfl (hQ _ ?_ (Heap.SameBut.update ..))
  rw [← hi.2]
  exact x.grow ho hg hk

/-- the entries of a display -/
def entsOf (w : World) (vs : List (Value × Value)) : List DictEntry := vs.map fun p => ⟨hashStr w (match p.1 with | .str k _ => k | _ => Str.empty), p.1, p.2⟩
theorem storeAll_new {d : Addr} : ∀ (vs : List (Value × Value)) (es : List DictEntry) (s : Shared) (Q : PUnit → Shared → Prop), SD w s.heap d es → (∀ p ∈ vs, ∃ k t, p.1 = .str k t) → ((es ++ entsOf w vs).map keyOf).Nodup → es.length + vs.length ≤ sizeLine →
    (∀ h', SD w h' d (es ++ entsOf w vs) → Heap.SameBut d s.heap h' → Q PUnit.unit { s with heap := h', toks := s.toks + vs.length }) →
    wpAny (model prog w) A (forIn vs PUnit.unit fun (x : Value × Value) (_ : PUnit) => (do dictSet d x.1 x.2; pure (ForInStep.yield PUnit.unit) : Sem (ForInStep PUnit))) Q E s
  | [], es, s, Q, hm, _, _, _, hQ => by
    rw [List.forIn_nil]
    exact wpAny_pure (by simpa [entsOf] using hQ s.heap (by simpa [entsOf] using hm) (Heap.SameBut.refl _ _))
  | (key, v) :: vs, es, s, Q, hm, hc, hn, hsz, hQ => by
    obtain ⟨k, t, hk⟩ := hc (key, v) List.mem_cons_self
    simp only at hk
    subst hk
    rw [List.length_cons] at hsz
    rw [List.forIn_cons]
    have hk' : k ∉ es.map keyOf := fun hin => by
      rw [List.map_append, List.nodup_append] at hn
      exact hn.2.2 k hin k (by simp [entsOf, keyOf]) rfl
    refine wpAny_bind (wpAny_bind (dictSet_new hm hk' (by omega) fun h₁ hm₁ hs₁ => wpAny_pure ?_))
    have he : es ++ entsOf w ((.str k t, v) :: vs) = (es ++ [⟨hashStr w k, .str k t, v⟩]) ++ entsOf w vs := by simp [entsOf]
    refine storeAll_new vs _ _ Q hm₁ (fun p hp => hc p (List.mem_cons_of_mem _ hp)) (he ▸ hn) (by simp; omega) fun h' hm' hs' => ?_
    have := hQ h' (by rw [he]; exact hm') (hs₁.trans hs')
    simpa [Nat.add_assoc, Nat.add_comm 1] using this

theorem subDict_new {pairs : List (Sem Value × Sem Value)} {Q : Addr → Shared → Prop} (hlen : pairs.length ≤ 15)
    (h : wpAny (model prog w) A (evalPairs pairs) (fun vs s₁ => s₁.heap.get? s.heap.objs.size = some { cls := .type "dict", data := .dict #[] } ∧ (∀ p ∈ vs, ∃ k t, p.1 = .str k t) ∧ ((entsOf w vs).map keyOf).Nodup ∧
      ∀ h', SD w h' s.heap.objs.size (entsOf w vs) → Heap.SameBut s.heap.objs.size s₁.heap h' → Q s.heap.objs.size { s₁ with heap := h', toks := s₁.toks + vs.length }) E
      { s with heap := s.heap.push { cls := .type "dict", data := .dict #[] } }) :
    wpAny (model prog w) A (subDict pairs) Q E s := by
  unfold subDict
  refine wpAny_bind (wpAny_alloc ?_)
  refine wpAny_bind (wpAny_holding ?_)
  rw [if_pos hlen]
  refine wpAny_bind (wpAny_mono (wpAny_evalPairs_len h) (fun vs s₁ h₁ => ?_) fun _ _ e => e)
  obtain ⟨hvl, hget, hc, hn, hQ⟩ := h₁
  refine wpAny_holding ?_
  refine wpAny_bind (storeAll_new vs [] s₁ _ ⟨⟨0, hget⟩, fun e he => (by cases he), by simp⟩ hc (by simpa using hn) (by rw [sizeLine_eq, List.length_nil]; omega) fun h' hm' hs' => wpAny_pure (wpAny_pure (hQ h' (by simpa using hm') hs')))

theorem mergeMapping_new {o : Addr} {more : List DictEntry} {Q : Unit → Shared → Prop} (hdo : d ≠ o) (hoS : (o == sysModules) = false)
    (hd : SD w s.heap d es) (ho : SD w s.heap o more) (hn : ((es ++ more).map keyOf).Nodup) (hsz : es.length + more.length ≤ sizeLine)
    (hQ : ∀ h', SD w h' d (es ++ more) → Heap.SameBut d s.heap h' → Q () { s with heap := h' }) :
    wpAny (model prog w) A (mergeMapping d (.ref o) false) Q E s := by
  obtain ⟨epd, hod⟩ := hd.get
  obtain ⟨epo, hoo⟩ := ho.get
  unfold mergeMapping
  refine wpAny_bind (m := isInstance (.ref o) (.type "dict")) (wpAny_isInstance ho.typeIs isSubtype_dict_dict ?_)
  simp only [if_true]
  refine wpAny_bind (m := specialOf (.ref o) (Str.ofString "__iter__")) (wpAny_specialOf ho.typeIs F.slot_dict_iter.lookup ?_)
  simp only [beq_self_eq_true]
  refine wpAny_bind (wpAny_pure ?_)
  simp only [hoS, Bool.false_eq_true, if_false]
  refine wpAny_bind (wpAny_dictEntries hod rfl ?_)
  have loop : ∀ {g : Nat → PUnit → Sem (ForInStep PUnit)} {E : Value → Shared → Prop}, (∀ i u, g i u = (do
      match (← dictEntries o)[i]? with
        | some e => do
          holding [e.key, e.val] (dictPut d e.hash e.key e.val)
          if ((← dictEpoch o) != epo) = true then do
              unsupported "dict.changed-during-merge"
              pure (ForInStep.yield PUnit.unit)
            else pure (ForInStep.yield PUnit.unit)
        | _ => do
          unsupported "dict.changed-during-merge"
          pure (ForInStep.yield PUnit.unit))) → wpAny (model prog w) A (do forIn (List.range more.length) PUnit.unit g; pure ()) Q E s := by
    intro g E hg
    refine wpAny_bind (wpAny_forIn_list g (fun rest _ s' => ∃ h' i, s' = { s with heap := h' } ∧ rest = (List.range more.length).drop i ∧ i ≤ more.length ∧ SD w h' d (es ++ more.take i) ∧ Heap.SameBut d s.heap h') _ ?_ ?_ _ _
      ⟨s.heap, 0, rfl, by simp, Nat.zero_le _, by simpa using hd, Heap.SameBut.refl _ _⟩)
    · rintro x rest b s' ⟨h', i, rfl, hr, hi, hd', hs'⟩
      have hlt : i < more.length := by
        rcases Nat.lt_or_ge i more.length with h | h
        · exact h
        · rw [List.drop_eq_nil_of_le (by simpa using h)] at hr; cases hr
      rw [List.drop_eq_getElem_cons (by simpa using hlt)] at hr
      injection hr with hx hrest
      have hx : x = i := by simpa using hx
      subst hx
      have hoo' : h'.get? o = some { cls := .type "dict", data := .dict more.toArray epo } := (hs'.2 o (Ne.symm hdo)).trans hoo
      rw [hg]
      refine wpAny_bind (wpAny_dictEntries hoo' rfl ?_)
      rw [show more.toArray[x]? = some more[x] by simp [hlt]]
      have htake : more.take (x + 1) = more.take x ++ [more[x]] := by rw [List.take_add_one]; simp [hlt]
      have hk : keyOf more[x] ∉ (es ++ more.take x).map keyOf := fun hin => by
        have : ((es ++ more.take (x + 1)).map keyOf).Nodup := by
          refine List.Nodup.sublist ?_ hn
          exact ((List.take_sublist _ _).append_left es).map keyOf
        rw [htake, ← List.append_assoc, List.map_append, List.nodup_append] at this
        exact this.2.2 _ hin _ (by simp) rfl
      refine wpAny_bind (wpAny_holding (dictPut_new hd' (ho.keys _ (List.getElem_mem hlt)) hk (by simp; omega) fun h'' hd'' hs'' => ?_))
      have hoo'' : h''.get? o = some { cls := .type "dict", data := .dict more.toArray epo } := (hs''.2 o (Ne.symm hdo)).trans hoo'
      refine wpAny_bind (wpAny_dictEpoch hoo'' rfl ?_)
      rw [if_neg (by simp)]
      exact wpAny_pure ⟨h'', x + 1, rfl, hrest, hlt, by rw [htake, ← List.append_assoc]; exact hd'', hs'.trans hs''⟩
    · rintro b s' ⟨h', i, rfl, hr, hi, hd', hs'⟩
      have hin : i = more.length := by
        rcases Nat.lt_or_ge i more.length with h | h
        · rw [List.drop_eq_getElem_cons (by simpa using h)] at hr; cases hr
        · exact Nat.le_antisymm hi h
      refine wpAny_pure (hQ h' ?_ hs')
      rw [hin, List.take_length] at hd'; exact hd'
  split
  · refine wpAny_bind (wpAny_dictEntries hoo rfl ?_)
    refine wpAny_bind (wpAny_of_eq (a := PUnit.unit) ?_ ?_)
    · rw [← Array.forIn_toList]
      refine forIn_yield_id _ fun e he c => ?_
      obtain ⟨k, u, hk, _⟩ := ho.keys e (by simpa using he)
      rw [hk]
    · refine wpAny_bind (wpAny_dictEntries hoo rfl ?_)
      refine wpAny_bind (wpAny_dictEpoch hoo rfl ?_)
      rw [List.size_toArray]
      exact loop fun i u => rfl
  · refine wpAny_bind (wpAny_dictEntries hoo rfl ?_)
    refine wpAny_bind (wpAny_dictEpoch hoo rfl ?_)
    rw [List.size_toArray]
    exact loop fun i u => rfl
end
end Mine

namespace Mine

theorem Keeps.of_update {s s₁ s₂ : Shared} {h' : Heap} {d : Addr} {n : Nat} (hd : s.heap.get? d = none) (k : Keeps s s₁) (e : s₂ = { s₁ with heap := h', toks := n }) (hs : Heap.SameBut d s₁.heap h') : Keeps s s₂ := by
  obtain ⟨h, t, rfl, k⟩ := k
  subst e
  exact ⟨h', n, rfl, fun b o e => hs.extBut b o (fun q => by rw [q, hd] at e; cases e) (k b o e)⟩

theorem gather {main : Option Addr} (f : (Option (Sem Value) × Sem Value) → (Option Addr × List (Sem Value × Sem Value)) → Sem (ForInStep (Option Addr × List (Sem Value × Sem Value))))
    (hf : ∀ (p : Sem Value × Sem Value) (run : List (Sem Value × Sem Value)), run.length + 1 < 17 → f (some p.1, p.2) (main, run) = pure (.yield (main, run ++ [p]))) :
    ∀ (items run : List (Sem Value × Sem Value)) (rest : List (Option (Sem Value) × Sem Value)), run.length + items.length < 17 → forIn (items.map (fun p => (some p.1, p.2)) ++ rest) (main, run) f = forIn rest (main, run ++ items) f
  | [], run, rest, _ => by simp
  | p :: r, run, rest, h => by
    rw [List.map_cons, List.cons_append, List.forIn_cons, hf p run (by simp at h; omega), pure_bind]
    have := gather f hf r (run ++ [p]) rest (by simp at h ⊢; omega)
    simpa using this

section
variable {prog : Program} {w : World} {A : Around} {E : Value → Shared → Prop} {s : Shared}

/-- a display of pairs alone -/
theorem subDict_keeps {pairs : List (Sem Value × Sem Value)} (P : List (Value × Value) → Prop) (hlen : pairs.length ≤ 15)
    (hp : ∀ s₁, Keeps s s₁ → s.toks ≤ s₁.toks → wpAny (model prog w) A (evalPairs pairs) (fun vs s₂ => P vs ∧ Keeps s₁ s₂) (fun _ _ => False) s₁)
    (hP : ∀ vs, P vs → (∀ p ∈ vs, ∃ k t, p.1 = .str k t) ∧ ((entsOf w vs).map keyOf).Nodup) :
    wpAny (model prog w) A (subDict pairs) (fun D s' => (∃ vs, P vs ∧ vs.length = pairs.length ∧ s.heap.objs.size = D ∧ SD w s'.heap D (entsOf w vs)) ∧ Keeps s s') (fun _ _ => False) s := by
  refine subDict_new hlen (wpAny_mono (wpAny_evalPairs_len (hp { s with heap := s.heap.push { cls := .type "dict", data := .dict #[] } } (keeps_push s _ _) (Nat.le_refl _))) (fun vs s₁ h₁ => ?_) fun _ _ e => e)
  obtain ⟨hvl, hv, k⟩ := h₁
  refine ⟨keeps_get k (Heap.get?_push_size _ rfl), (hP vs hv).1, (hP vs hv).2, fun h' hm hs => ⟨⟨vs, hv, hvl, rfl, hm⟩, ?_⟩⟩
  exact Keeps.of_update (fresh_at (keeps_refl s) (Nat.le_refl _)) (keeps_trans (keeps_push s _ s.toks) k) rfl hs

theorem display_pairs {pairs : List (Sem Value × Sem Value)} (P : List (Value × Value) → Prop) (h0 : pairs ≠ []) (hlen : pairs.length ≤ 15)
    (hp : ∀ s₁, Keeps s s₁ → s.toks ≤ s₁.toks → wpAny (model prog w) A (evalPairs pairs) (fun vs s₂ => P vs ∧ Keeps s₁ s₂) (fun _ _ => False) s₁)
    (hP : ∀ vs, P vs → (∀ p ∈ vs, ∃ k t, p.1 = .str k t) ∧ ((entsOf w vs).map keyOf).Nodup) :
    wpAny (model prog w) A (dictDisplay (pairs.map fun p => (some p.1, p.2))) (fun v s' => (∃ D vs, v = .ref D ∧ P vs ∧ D = s.heap.objs.size ∧ SD w s'.heap D (entsOf w vs)) ∧ Keeps s s') (fun _ _ => False) s := by
  rw [dictDisplay_pairs pairs h0 (by omega)]
  refine wpAny_bind (wpAny_mono (subDict_keeps P hlen hp hP) (fun D s' h => ?_) fun _ _ e => e)
  obtain ⟨⟨vs, hv, _, rfl, hS⟩, k⟩ := h
  exact wpAny_pure ⟨⟨_, vs, rfl, hv, rfl, hS⟩, k⟩

/-- {**m, k: v, ..}, m an empty one of its own -/
theorem display_first {mv : Sem Value} {o : Addr} {pairs : List (Sem Value × Sem Value)} (P : List (Value × Value) → Prop) (h0 : pairs ≠ []) (hlen : pairs.length ≤ 15)
    (hmv : ∀ s₁, Keeps s s₁ → s.toks ≤ s₁.toks → wpAny (model prog w) A mv (fun v s₂ => v = .ref o ∧ Keeps s₁ s₂) (fun _ _ => False) s₁) (ho : SD w s.heap o []) (hoS : (o == sysModules) = false) (hS : sysModules < s.heap.objs.size)
    (hp : ∀ s₁, Keeps s s₁ → s.toks ≤ s₁.toks → wpAny (model prog w) A (evalPairs pairs) (fun vs s₂ => P vs ∧ Keeps s₁ s₂) (fun _ _ => False) s₁)
    (hP : ∀ vs, P vs → (∀ p ∈ vs, ∃ k t, p.1 = .str k t) ∧ ((entsOf w vs).map keyOf).Nodup) :
    wpAny (model prog w) A (dictDisplay ((none, mv) :: pairs.map fun p => (some p.1, p.2))) (fun v s' => (∃ D vs, v = .ref D ∧ P vs ∧ D = s.heap.objs.size ∧ SD w s'.heap D (entsOf w vs)) ∧ Keeps s s') (fun _ _ => False) s := by
  unfold dictDisplay
  dsimp only
  rw [List.forIn_cons]
  refine wpAny_bind (wpAny_bind ?_)
  dsimp only
  simp only [List.isEmpty_nil, if_true]
  refine wpAny_bind (wpAny_pure ?_)
  dsimp only
  refine wpAny_bind (wpAny_alloc ?_)
  have hDn : s.heap.get? s.heap.objs.size = none := fresh_at (keeps_refl s) (Nat.le_refl _)
  generalize hD : s.heap.objs.size = D at hDn ⊢
  have k1 : Keeps s { s with heap := s.heap.push { cls := .type "dict", data := .dict #[] } } := keeps_push s _ s.toks
  have g1 : (s.heap.push { cls := .type "dict", data := .dict #[] }).get? D = some { cls := .type "dict", data := .dict #[] } := by rw [← hD]; exact Heap.get?_push_size _ rfl
  refine wpAny_bind (wpAny_holding (wpAny_mono (wpAny_toks_of (n := s.toks) (Nat.le_refl s.toks) (hmv _ k1 (Nat.le_refl s.toks))) (fun v s₂ h₂ => ?_) fun _ _ e => e.2))
  obtain ⟨ht₂, rfl, k2⟩ := h₂
  have hdo : D ≠ o := by obtain ⟨ep, e⟩ := ho.get; exact (ne_of_get e hDn).symm
  refine wpAny_bind (wpAny_onRaise (wpAny_tryCatch (wpAny_onRaise (wpAny_holding ?_))))
  refine mergeMapping_new (es := []) (more := []) hdo hoS ⟨⟨0, keeps_get k2 g1⟩, fun e he => (by cases he), by simp⟩ (ho.at fun o' e => keeps_get k2 (keeps_get k1 e)) (by simp) (by simp) fun h₃ hm₃ hs₃ => ?_
  refine wpAny_pure ?_
  dsimp only
  rw [← List.append_nil (List.map (fun (p : Sem Value × Sem Value) => (some p.1, p.2)) pairs)]
  have k3 : Keeps s { s₂ with heap := h₃ } := Keeps.of_update hDn (keeps_trans k1 k2) rfl hs₃
  rw [gather (main := some D) _ (fun p run h => by
    have hne : ((run ++ [(p.1, p.2)]).length == 17) = false := by simp; omega
    simp only [hne, Bool.false_eq_true, if_false]) pairs [] [] (by simpa using (by omega : pairs.length < 17))]
  rw [List.forIn_nil]
  refine wpAny_pure ?_
  simp only [List.nil_append, List.isEmpty_iff, h0, if_false]
  refine wpAny_bind (wpAny_bind (wpAny_holding (wpAny_mono (subDict_keeps (s := { s₂ with heap := h₃ }) P hlen (fun s₁ k t => hp s₁ (keeps_trans k3 k) (Nat.le_trans ht₂ t)) hP) (fun D2 s₄ h₄ => ?_) fun _ _ e => e)))
  obtain ⟨⟨vs, hv, hvl, hD2, hm₄⟩, k4⟩ := h₄
  have hD2n : ({ s₂ with heap := h₃ } : Shared).heap.get? D2 = none := hD2 ▸ fresh_at (keeps_refl _) (Nat.le_refl _)
  have hne : D ≠ D2 := by obtain ⟨ep, e⟩ := hm₃.get; exact ne_of_get e hD2n
  refine wpAny_bind (wpAny_onRaise (wpAny_holding ?_))
  refine mergeMapping_new (es := []) (more := entsOf w vs) hne ?_ (hm₃.at fun o' e => keeps_get k4 e) hm₄ (by simpa using (hP vs hv).2) ?_ fun h₅ hm₅ hs₅ => ?_
  · have h1 : D < D2 := by obtain ⟨ep, e⟩ := hm₃.get; exact hD2 ▸ Heap.lt_size e
    have h2 : sysModules < D := hD ▸ hS
    have : D2 ≠ sysModules := Nat.ne_of_gt (Nat.lt_trans h2 h1)
    simpa using this
  · simp only [List.length_nil, entsOf, List.length_map, sizeLine_eq]; omega
  · refine wpAny_pure (wpAny_pure ⟨⟨D, vs, rfl, hv, rfl, by simpa using hm₅⟩, ?_⟩)
    exact Keeps.of_update hDn (keeps_trans k3 k4) rfl hs₅

/-- {k: v, .., **m} -/
theorem display_last {mv : Sem Value} {o : Addr} {es0 : List DictEntry} {pairs : List (Sem Value × Sem Value)} (P : List (Value × Value) → Prop) (h0 : pairs ≠ []) (hlen : pairs.length ≤ 15)
    (hmv : ∀ s₁, Keeps s s₁ → s.toks ≤ s₁.toks → wpAny (model prog w) A mv (fun v s₂ => v = .ref o ∧ Keeps s₁ s₂) (fun _ _ => False) s₁) (ho : SD w s.heap o es0) (hoS : (o == sysModules) = false)
    (hsz : es0.length ≤ 1000)
    (hp : ∀ s₁, Keeps s s₁ → s.toks ≤ s₁.toks → wpAny (model prog w) A (evalPairs pairs) (fun vs s₂ => P vs ∧ Keeps s₁ s₂) (fun _ _ => False) s₁)
    (hP : ∀ vs, P vs → (∀ p ∈ vs, ∃ k t, p.1 = .str k t) ∧ ((entsOf w vs ++ es0).map keyOf).Nodup) :
    wpAny (model prog w) A (dictDisplay ((pairs.map fun p => (some p.1, p.2)) ++ [(none, mv)])) (fun v s' => (∃ D vs, v = .ref D ∧ P vs ∧ D = s.heap.objs.size ∧ SD w s'.heap D (entsOf w vs ++ es0)) ∧ Keeps s s') (fun _ _ => False) s := by
  unfold dictDisplay
  dsimp only
  rw [gather (main := none) _ (fun p run h => by
    have hne : ((run ++ [(p.1, p.2)]).length == 17) = false := by simp; omega
    simp only [hne, Bool.false_eq_true, if_false]) pairs [] _ (by simpa using (by omega : pairs.length < 17))]
  rw [List.forIn_cons]
  refine wpAny_bind (wpAny_bind ?_)
  dsimp only
  simp only [List.nil_append, List.isEmpty_iff, h0, if_false]
  have hDn : s.heap.get? s.heap.objs.size = none := fresh_at (keeps_refl s) (Nat.le_refl _)
  refine wpAny_bind (wpAny_bind (wpAny_mono (wpAny_toks_of (n := s.toks) (Nat.le_refl _) (subDict_keeps P hlen hp (fun vs hv => ⟨(hP vs hv).1, by have := (hP vs hv).2; rw [List.map_append, List.nodup_append] at this; exact this.1⟩))) (fun D s₁ h₁ => ?_) fun _ _ e => e.2))
  obtain ⟨ht₁, ⟨vs, hv, hvl, hD, hm₁⟩, k1⟩ := h₁
  refine wpAny_pure ?_
  dsimp only
  refine wpAny_bind (wpAny_pure ?_)
  refine wpAny_bind (wpAny_holding (wpAny_mono (hmv s₁ k1 ht₁) (fun v s₂ h₂ => ?_) fun _ _ e => e))
  obtain ⟨rfl, k2⟩ := h₂
  rw [hD] at hDn
  have hdo : D ≠ o := by obtain ⟨ep, e⟩ := ho.get; exact (ne_of_get e hDn).symm
  refine wpAny_bind (wpAny_onRaise (wpAny_tryCatch (wpAny_onRaise (wpAny_holding ?_))))
  refine mergeMapping_new hdo hoS (hm₁.at fun o' e => keeps_get k2 e) (ho.at fun o' e => keeps_get k2 (keeps_get k1 e)) (hP vs hv).2 (by simp only [entsOf, List.length_map, sizeLine_eq]; omega) fun h₃ hm₃ hs₃ => ?_
  refine wpAny_pure ?_
  dsimp only
  rw [List.forIn_nil]
  refine wpAny_pure ?_
  dsimp only
  simp only [List.isEmpty_nil, if_true]
  refine wpAny_bind (wpAny_pure ?_)
  exact wpAny_pure ⟨⟨D, vs, rfl, hv, hD.symm, hm₃⟩, Keeps.of_update hDn (keeps_trans k1 k2) rfl hs₃⟩

/-! ### as expressions -/
variable {env : Env}
theorem dict_pairs {ks : List (Option Expr)} {vs : List Expr} {pos : Pos} (P : List (Value × Value) → Prop) (hall : ks.all (·.isSome) = true) (hl : ks.length = vs.length) (h0 : ks ≠ []) (hlen : ks.length ≤ 15)
    (hp : ∀ s₁, Keeps s s₁ → s.toks ≤ s₁.toks → wpAny (model prog w) A (evalPairs (pairTrees ks vs env pos)) (fun vs s₂ => P vs ∧ Keeps s₁ s₂) (fun _ _ => False) s₁)
    (hP : ∀ vs, P vs → (∀ p ∈ vs, ∃ k t, p.1 = .str k t) ∧ ((entsOf w vs).map keyOf).Nodup) :
    wpAny (model prog w) A (eval (.Dict ks vs pos) env) (fun v s' => (∃ D vs, v = .ref D ∧ P vs ∧ D = s.heap.objs.size ∧ SD w s'.heap D (entsOf w vs)) ∧ Keeps s s') (fun _ _ => False) s := by
  have hn := pairTrees_length ks vs env pos hall hl
  rw [arm_eval_Dict, zip_pairTrees ks vs env pos hall hl]
  refine wpAny_bind (wpAny_standAt (display_pairs P ?_ (by rw [hn]; exact hlen) hp hP))
  intro he; rw [he] at hn; exact h0 (List.length_eq_zero_iff.mp hn.symm)
theorem dict_first {v : Expr} {o : Addr} {ks : List (Option Expr)} {vs : List Expr} {pos : Pos} (P : List (Value × Value) → Prop) (hall : ks.all (·.isSome) = true) (hl : ks.length = vs.length) (h0 : ks ≠ []) (hlen : ks.length ≤ 15)
    (hmv : ∀ s₁, Keeps s s₁ → s.toks ≤ s₁.toks → wpAny (model prog w) A (eval v env) (fun v s₂ => v = .ref o ∧ Keeps s₁ s₂) (fun _ _ => False) s₁) (ho : SD w s.heap o []) (hoS : (o == sysModules) = false) (hS : sysModules < s.heap.objs.size)
    (hp : ∀ s₁, Keeps s s₁ → s.toks ≤ s₁.toks → wpAny (model prog w) A (evalPairs (pairTrees ks vs env pos)) (fun vs s₂ => P vs ∧ Keeps s₁ s₂) (fun _ _ => False) s₁)
    (hP : ∀ vs, P vs → (∀ p ∈ vs, ∃ k t, p.1 = .str k t) ∧ ((entsOf w vs).map keyOf).Nodup) :
    wpAny (model prog w) A (eval (.Dict (none :: ks) (v :: vs) pos) env) (fun v s' => (∃ D vs, v = .ref D ∧ P vs ∧ D = s.heap.objs.size ∧ SD w s'.heap D (entsOf w vs)) ∧ Keeps s s') (fun _ _ => False) s := by
  have hn := pairTrees_length ks vs env pos hall hl
  rw [arm_eval_Dict]
  have e : (evalEachOpt (none :: ks) env).zip ((evalEach (v :: vs) env).map fun v => do let x ← v; standAt pos; pure x) = (none, do let x ← eval v env; standAt pos; pure x) :: (evalEachOpt ks env).zip ((evalEach vs env).map fun v => do let x ← v; standAt pos; pure x) := rfl
  rw [e, zip_pairTrees ks vs env pos hall hl]
  refine wpAny_bind (wpAny_standAt (display_first P ?_ (by rw [hn]; exact hlen) (fun s₁ k t => wpAny_bind (wpAny_mono (hmv s₁ k t) (fun _ _ h => wpAny_bind (wpAny_standAt (wpAny_pure h))) fun _ _ e => e)) ho hoS hS hp hP))
  intro he; rw [he] at hn; exact h0 (List.length_eq_zero_iff.mp hn.symm)
theorem dict_last {v : Expr} {o : Addr} {es0 : List DictEntry} {ks : List (Option Expr)} {vs : List Expr} {pos : Pos} (P : List (Value × Value) → Prop) (hall : ks.all (·.isSome) = true) (hl : ks.length = vs.length) (h0 : ks ≠ []) (hlen : ks.length ≤ 15)
    (hmv : ∀ s₁, Keeps s s₁ → s.toks ≤ s₁.toks → wpAny (model prog w) A (eval v env) (fun v s₂ => v = .ref o ∧ Keeps s₁ s₂) (fun _ _ => False) s₁) (ho : SD w s.heap o es0) (hoS : (o == sysModules) = false) (hsz : es0.length ≤ 1000)
    (hp : ∀ s₁, Keeps s s₁ → s.toks ≤ s₁.toks → wpAny (model prog w) A (evalPairs (pairTrees ks vs env pos)) (fun vs s₂ => P vs ∧ Keeps s₁ s₂) (fun _ _ => False) s₁)
    (hP : ∀ vs, P vs → (∀ p ∈ vs, ∃ k t, p.1 = .str k t) ∧ ((entsOf w vs ++ es0).map keyOf).Nodup)
    (hz : (evalEachOpt (ks ++ [none]) env).zip ((evalEach (vs ++ [v]) env).map fun v => do let x ← v; standAt pos; pure x) = (evalEachOpt ks env).zip ((evalEach vs env).map fun v => do let x ← v; standAt pos; pure x) ++ [(none, do let x ← eval v env; standAt pos; pure x)]) :
    wpAny (model prog w) A (eval (.Dict (ks ++ [none]) (vs ++ [v]) pos) env) (fun v s' => (∃ D vs, v = .ref D ∧ P vs ∧ D = s.heap.objs.size ∧ SD w s'.heap D (entsOf w vs ++ es0)) ∧ Keeps s s') (fun _ _ => False) s := by
  have hn := pairTrees_length ks vs env pos hall hl
  rw [arm_eval_Dict, hz, zip_pairTrees ks vs env pos hall hl]
  refine wpAny_bind (wpAny_standAt (display_last P ?_ (by rw [hn]; exact hlen) (fun s₁ k t => wpAny_bind (wpAny_mono (hmv s₁ k t) (fun _ _ h => wpAny_bind (wpAny_standAt (wpAny_pure h))) fun _ _ e => e)) ho hoS hsz hp hP))
  intro he; rw [he] at hn; exact h0 (List.length_eq_zero_iff.mp hn.symm)
end
end Mine

namespace Mine

section
variable {prog : Program} {w : World} {A : Around} {E : Value → Shared → Prop} {s : Shared} {d it : Addr} {es : List DictEntry} {ep : Nat}

/-- the next pair of a dict's items: the very key that stands in the entry -/
theorem items_item {i : Nat} {ok ov : Value} {e : DictEntry} {Q : Option Value → Shared → Prop} (hit : IsItemIter s.heap it d i es.length ep ok ov)
    (hod : s.heap.get? d = some { cls := .type "dict", data := .dict es.toArray ep }) (hx : es[i]? = some e)
    (hQ : ∀ h', IsItemIterOut h' it d (i + 1) es.length ep e.key e.val s.heap.objs.size →
      h'.get? s.heap.objs.size = some { cls := .type "tuple", data := .seq #[e.key, e.val] } → h'.objs.size = s.heap.objs.size + 1 →
      (∀ b o, b ≠ it → s.heap.get? b = some o → h'.get? b = some o) → Q (some (.ref s.heap.objs.size)) { s with heap := h' }) :
    wpAny (model prog w) A (pyNext (.ref it)) Q E s := by
  obtain ⟨hp, g, dr, tk, os⟩ := s
  have hT : Shared.TypeIs ⟨hp, g, dr, tk, os⟩ (.ref it) "dict_itemiterator" := ⟨_, hit, rfl⟩
  unfold pyNext
  refine wpAny_bind (wpAny_attempt (wpAny_callSpecial?_slot (name := Str.ofString "__next__") hT F.slot_dict_itemiterator_next
    (wpAny_call_entry F.slot_dict_itemiterator_next hT F.entry_dict_itemiterator_next ?_ (F.args_dict_itemiterator_next_1 _))))
  refine wpAny_bind (wpAny_pure ?_)
  refine wpAny_bind ?_
  refine wpAny_bind ?_
  first | refine wpAny_bind (wpAny_typeNameOfWhole_itemiter hT (wpAny_pure ?_)) | refine wpAny_bind (wpAny_typeNameOf_itemiter hT (wpAny_pure ?_))
  refine wpAny_bind (wpAny_fieldsOf hit rfl ?_)
  have hown : Builtin.Dict_items.ownsTuple "dict_itemiterator" = true := by decide
  simp only [hown, if_true]
  show wpAny _ _ (if (Value.ref d == Value.none) = true then _ else _) _ _ _
  rw [if_neg (show ¬ ((Value.ref d == Value.none) = true) from Bool.false_ne_true)]
  refine wpAny_bind (wpAny_pure ?_)
  refine wpAny_bind (wpAny_dictEntries hod rfl ?_)
  rw [if_neg (by simp)]
  refine wpAny_bind (wpAny_pure ?_)
  refine wpAny_bind (wpAny_dictEpoch hod rfl ?_)
  rw [if_neg (by simp)]
  refine wpAny_pure ?_
  have hx' : es.toArray[i]? = some e := by simpa using hx
  simp only [show ¬ ((i : Int) < 0) from by omega, if_false, Int.toNat_natCast, hx']
  refine wpAny_bind ?_
  first | refine wpAny_bind (wpAny_typeNameOfWhole_itemiter hT (wpAny_pure ?_)) | refine wpAny_bind (wpAny_typeNameOf_itemiter hT (wpAny_pure ?_))
  refine wpAny_bind (wpAny_isOneOf_itemiter hT ?_)
  show wpAny _ _ (setField (.ref it) 3 (rawInt ((i : Int) + 1)) >>= _) _ _ ⟨hp, g, dr, tk, os⟩
  refine wpAny_bind (wpAny_setField_rec hit (by simp) fun h₁ he₁ hs₁ => ?_)
  replace hs₁ : Heap.SameBut it hp h₁ := hs₁
  replace he₁ : IsItemIter h₁ it d (i + 1) es.length ep ok ov := by
    have e : ((i + 1 : Nat) : Int) = (i : Int) + 1 := by omega
    unfold IsItemIter; rw [e]; simpa [rawInt] using he₁
  have hT₁ : Shared.TypeIs ⟨h₁, g, dr, tk, os⟩ (.ref it) "dict_itemiterator" := ⟨_, he₁, rfl⟩
  refine wpAny_bind (wpAny_holding ?_)
  refine wpAny_bind (wpAny_isOneOf_itemiter hT₁ ?_)
  refine wpAny_bind (wpAny_isOneOf_itemiter hT₁ ?_)
  show wpAny _ _ (Builtin.Dict_items.pairFromOwner (.ref it) 6 e.key e.val) _ _ ⟨h₁, g, dr, tk, os⟩
  unfold Builtin.Dict_items.pairFromOwner
  refine wpAny_bind (wpAny_newTuple ?_)
  have he₂ : IsItemIter (h₁.push { cls := .type "tuple", data := .seq #[e.key, e.val] }) it d (i + 1) es.length ep ok ov := Heap.get?_push_of_some _ he₁
  generalize hh₂ : h₁.push { cls := .type "tuple", data := .seq #[e.key, e.val] } = h₂ at he₂
  have hz₁ : h₁.objs.size = hp.objs.size := hs₁.1
  have hil : it < hp.objs.size := Heap.lt_size hit
  have ht₂ : h₂.get? hp.objs.size = some { cls := .type "tuple", data := .seq #[e.key, e.val] } := by rw [← hh₂, ← hz₁]; exact Heap.get?_push_size _ rfl
  have hz₂ : h₂.objs.size = hp.objs.size + 1 := by rw [← hh₂, Heap.size_push, hz₁]
  have hk₂ : ∀ b o, b ≠ it → hp.get? b = some o → h₂.get? b = some o := fun b o hb q => by rw [← hh₂]; exact Heap.get?_push_of_some _ (hs₁.extBut b o hb q)
  show wpAny _ _ (Builtin.Dict_items.ownedTupleIsFree (.ref it) >>= _) _ _ ⟨h₂, g, dr, tk, os⟩
  rw [hz₁]
  clear hh₂ he₁ hs₁ hT₁ hz₁ h₁
  refine wpAny_bind ?_
  unfold Builtin.Dict_items.ownedTupleIsFree
  refine wpAny_bind (wpAny_field he₂ rfl (x := .none) rfl (wpAny_pure ?_))
  simp only [if_true]
  refine wpAny_bind (wpAny_field he₂ rfl (x := ok) rfl ?_)
  refine wpAny_bind (wpAny_field he₂ rfl (x := ov) rfl ?_)
  refine wpAny_bind (wpAny_setField_rec he₂ (by simp) fun h₃ he₃ hs₃ => ?_)
  replace hs₃ : Heap.SameBut it h₂ h₃ := hs₃
  replace he₃ : IsItemIter h₃ it d (i + 1) es.length ep e.key ov := he₃
  refine wpAny_bind (wpAny_setField_rec he₃ (by simp) fun h₄ he₄ hs₄ => ?_)
  replace hs₄ : Heap.SameBut it h₃ h₄ := hs₄
  replace he₄ : IsItemIter h₄ it d (i + 1) es.length ep e.key e.val := he₄
  refine wpAny_bind (wpAny_setField_rec he₄ (by simp) fun h₅ he₅ hs₅ => ?_)
  replace hs₅ : Heap.SameBut it h₄ h₅ := hs₅
  replace he₅ : IsItemIterOut h₅ it d (i + 1) es.length ep e.key e.val hp.objs.size := he₅
  refine wpAny_bind (wpAny_setField_rec he₅ (by simp) fun h₆ he₆ hs₆ => ?_)
  replace hs₆ : Heap.SameBut it h₅ h₆ := hs₆
  replace he₆ : IsItemIterOut h₆ it d (i + 1) es.length ep e.key e.val hp.objs.size := he₆
  have hne : hp.objs.size ≠ it := Nat.ne_of_gt hil
  refine wpAny_bind (wpAny_letGo (wpAny_pure (wpAny_pure ⟨_, rfl, wpAny_pure (hQ h₆ he₆ ?_ ?_ ?_)⟩)))
  · exact hs₆.extBut _ _ hne (hs₅.extBut _ _ hne (hs₄.extBut _ _ hne (hs₃.extBut _ _ hne ht₂)))
  · show h₆.objs.size = hp.objs.size + 1
    rw [hs₆.1, hs₅.1, hs₄.1, hs₃.1, hz₂]
  · exact fun b o hb q => hs₆.extBut b o hb (hs₅.extBut b o hb (hs₄.extBut b o hb (hs₃.extBut b o hb (hk₂ b o hb q))))
end

section
variable {prog : Program} {w : World} {A : Around} {E : Value → Shared → Prop} {s₀ s : Shared} {R : Heap} {env : Env} {m cm : Str → Option Value} {N : List (Addr × Obj)}

/-- a tuple of two is laid out over two names -/
theorem assign_tuple2 {a b : Str} {pa pb pt : Pos} {x1 : Nat} {T : Addr} {v1 v2 : Value} (hh : A.handled = none) (hT : s.heap.IsTuple T #[v1, v2]) (hm : s.heap.Ns env.locals m)
    (ha : env.kindOf a = some .local) (hb : env.kindOf b = some .local) (hp : (env.scope.kind == .class || (env.scope.kind == .module && env.locals != env.globals)) = false) :
    wpAny (model prog w) A (assign (.Tuple [.Name a pa, .Name b pb] x1 pt) env (.ref T)) (fun _ s₃ => ∃ h' tk, s₃ = { s with heap := h', toks := tk } ∧ h'.Ns env.locals (upd (upd m a v1) b v2) ∧ s.toks ≤ tk ∧ ∀ b o, b ≠ env.locals → s.heap.get? b = some o → h'.get? b = some o) (fun _ _ => False) s := by
  refine wpAny_assign_Tuple hh hT rfl rfl fun h₁ hx₁ => ?_
  have up1 : ∀ b o, s.heap.get? b = some o → h₁.get? b = some o := fun b o e => hx₁ b o (Nat.ne_of_lt (Heap.lt_size e)) e
  show wpAny _ _ (do holding [v2] (assign (.Name a pa) env v1); do holding [] (assign (.Name b pb) env v2); pure ()) _ _ _
  refine wpAny_bind (wpAny_holding (wpAny_assign_Name (wpAny_storeName_local ha (hm.keeps up1) (fun h₂ hn₂ hs₂ => ?_) hp)))
  refine wpAny_bind (wpAny_holding (wpAny_assign_Name (wpAny_storeName_local hb hn₂ (fun h₃ hn₃ hs₃ => wpAny_pure ?_) hp)))
  exact ⟨h₃, _, rfl, hn₃, Nat.le_trans (Nat.le_succ _) (Nat.le_succ _), fun b o hb e => hs₃.extBut b o hb (hs₂.extBut b o hb (up1 b o e))⟩
theorem assign_tuple3 {a b c : Str} {pa pb pc pt : Pos} {x1 : Nat} {T : Addr} {v1 v2 v3 : Value} (hh : A.handled = none) (hT : s.heap.IsTuple T #[v1, v2, v3]) (hm : s.heap.Ns env.locals m)
    (ha : env.kindOf a = some .local) (hb : env.kindOf b = some .local) (hc : env.kindOf c = some .local) (hp : (env.scope.kind == .class || (env.scope.kind == .module && env.locals != env.globals)) = false) :
    wpAny (model prog w) A (assign (.Tuple [.Name a pa, .Name b pb, .Name c pc] x1 pt) env (.ref T)) (fun _ s₃ => ∃ h' tk, s₃ = { s with heap := h', toks := tk } ∧ h'.Ns env.locals (upd (upd (upd m a v1) b v2) c v3) ∧ s.toks ≤ tk ∧ ∀ b o, b ≠ env.locals → s.heap.get? b = some o → h'.get? b = some o) (fun _ _ => False) s := by
  refine wpAny_assign_Tuple hh hT rfl rfl fun h₁ hx₁ => ?_
  have up1 : ∀ b o, s.heap.get? b = some o → h₁.get? b = some o := fun b o e => hx₁ b o (Nat.ne_of_lt (Heap.lt_size e)) e
  show wpAny _ _ (do holding [v2, v3] (assign (.Name a pa) env v1); do holding [v3] (assign (.Name b pb) env v2); do holding [] (assign (.Name c pc) env v3); pure ()) _ _ _
  refine wpAny_bind (wpAny_holding (wpAny_assign_Name (wpAny_storeName_local ha (hm.keeps up1) (fun h₂ hn₂ hs₂ => ?_) hp)))
  refine wpAny_bind (wpAny_holding (wpAny_assign_Name (wpAny_storeName_local hb hn₂ (fun h₃ hn₃ hs₃ => ?_) hp)))
  refine wpAny_bind (wpAny_holding (wpAny_assign_Name (wpAny_storeName_local hc hn₃ (fun h₄ hn₄ hs₄ => wpAny_pure ?_) hp)))
  exact ⟨h₄, _, rfl, hn₄, Nat.le_trans (Nat.le_succ _) (Nat.le_trans (Nat.le_succ _) (Nat.le_succ _)), fun b o hb e => hs₄.extBut b o hb (hs₃.extBut b o hb (hs₂.extBut b o hb (up1 b o e)))⟩

/-- a change at the frame's names alone -/
theorem In.ofL {m' : Str → Option Value} {h' : Heap} {tk : Nat} (X : In s₀ R env m cm N s) (hn : h'.Ns env.locals m') (ht : 0 < tk) (hk : ∀ b o, b ≠ env.locals → s.heap.get? b = some o → h'.get? b = some o) : In s₀ R env m' cm N { s with heap := h', toks := tk } := by
  obtain ⟨h₁, t, rfl, k⟩ := X.keep
  have kk : ∀ b o, s₀.heap.get? b = some o → h'.get? b = some o := fun b o e => hk b o (X.low (Heap.lt_size e)).1 (k b o e)
  exact { toEx := ⟨⟨h', tk, rfl, kk⟩, hn, fun n c hc => let ⟨o, ho, hd⟩ := X.cell n c hc; ⟨o, hk c o (Nat.ne_of_gt (X.above n c hc)) ho, hd⟩, fun p hp => hk _ _ (X.off p hp).1 (X.news p hp), X.base0.keeps kk, ht⟩
          base0 := X.base0, fresh := X.fresh, apart := X.apart, above := X.above, off := X.off, since := fun b o h1 h2 h3 => hk b o h1 (X.since b o h1 h2 h3) }
/-- a change at places that the frame knows nothing of -/
theorem In.offW {W : List Addr} {h' : Heap} {tk : Nat} (X : In s₀ R env m cm N s) (h0 : ∀ b ∈ W, s₀.heap.get? b = none) (hR : ∀ b ∈ W, R.get? b = none) (hL : env.locals ∉ W) (hc : ∀ n c, env.cells.lookup n = some c → c ∉ W) (hN : ∀ p ∈ N, p.1 ∉ W) (ht : 0 < tk)
    (hk : ∀ b o, b ∉ W → s.heap.get? b = some o → h'.get? b = some o) : In s₀ R env m cm N { s with heap := h', toks := tk } := by
  obtain ⟨h₁, t, rfl, k⟩ := X.keep
  have kk : ∀ b o, s₀.heap.get? b = some o → h'.get? b = some o := fun b o e => hk b o (fun hb => by rw [h0 b hb] at e; cases e) (k b o e)
  exact { toEx := ⟨⟨h', tk, rfl, kk⟩, X.ns.at' fun o e => hk _ o hL e, fun n c hc' => let ⟨o, ho, hd⟩ := X.cell n c hc'; ⟨o, hk c o (hc n c hc') ho, hd⟩, fun p hp => hk _ _ (hN p hp) (X.news p hp), X.base0.keeps kk, ht⟩
          base0 := X.base0, fresh := X.fresh, apart := X.apart, above := X.above, off := X.off, since := fun b o h1 h2 h3 => hk b o (fun hb => by rw [hR b hb] at h3; cases h3) (X.since b o h1 h2 h3) }
theorem In.newW {W : List Addr} {h' : Heap} {tk : Nat} {s₁ : Shared} (X₀ : In s₀ R env m cm N s₁) {m' cm' : Str → Option Value} {R' : Heap} (X : In s₀ R' env m' cm' N s) (hw : ∀ b ∈ W, s₁.heap.get? b = none) (hR : ∀ b ∈ W, R'.get? b = none) (ht : 0 < tk)
    (hk : ∀ b o, b ∉ W → s.heap.get? b = some o → h'.get? b = some o) : In s₀ R' env m' cm' N { s with heap := h', toks := tk } := by
  refine X.offW (fun b hb => ?_) hR (fun hb => ?_) (fun n c hc hb => ?_) (fun p hp hb => ?_) ht hk
  · cases e : s₀.heap.get? b with
    | none => rfl
    | some o => rw [← hw b hb, keeps_get X₀.keep e]
  · obtain ⟨o, _, _, ho, _⟩ := X₀.ns
    rw [hw _ hb] at ho; cases ho
  · obtain ⟨o, ho, _⟩ := X₀.cell n c hc
    rw [hw _ hb] at ho; cases ho
  · have := X₀.news p hp
    rw [hw _ hb] at this; cases this
end
end Mine

namespace Mine

section
variable {prog : Program} {w : World} {A : Around} {E : Value → Shared → Prop} {s₀ s : Shared} {R : Heap} {env : Env} {m cm : Str → Option Value} {N : List (Addr × Obj)}

/-- for x in e, x a name of the frame's own, nothing leaves early -/
theorem for_src {x : Str} {px pos : Pos} {iter : Expr} {body : List Stmt} {Q : Flow → Shared → Prop} (J : Nat → (Str → Option Value) → (Str → Option Value) → List (Addr × Obj) → Prop) (X : In s₀ R env m cm N s) (hk : env.scope.kind = .function) (hx : env.kindOf x = some .local)
    (h : wpAny (model prog w) A (eval iter env) (fun xv s₁ => ∃ n P N₁, Src prog w A s₁ xv n P ∧ Ex s env m cm N₁ s₁ ∧ (∀ p ∈ N₁, p ∈ N ∨ s.heap.get? p.1 = none) ∧ J 0 m cm N₁ ∧
      (∀ i m' cm' N', J i m' cm' N' → ∀ p ∈ N', isIter p.2 = false) ∧
      (∀ i v m' cm' N' R' s₂, i < n → P i v → J i m' cm' N' → In s₀ R' env (upd m' x v) cm' N' s₂ →
        wpAny (model prog w) A (execs body env) (fun f s₃ => f = .next ∧ ∃ m'' cm'' N'', In s₀ R' env m'' cm'' N'' s₃ ∧ J (i + 1) m'' cm'' N'') (fun _ _ => False) s₂) ∧
      (∀ m' cm' N' s', J n m' cm' N' → In s₀ R env m' cm' N' s' → Q .next s')) E s)
    (hs : ∀ x, foldedSetIterable iter env x = pure x := by intro _; rfl) :
    wpAny (model prog w) A (exec (.For (.Name x px) iter body [] pos) env) Q E s := by
  refine wpAny_For (wpAny_mono h (fun xv s₁ h₁ => ?_) fun _ _ e => e) hs
  obtain ⟨n, P, N₁, hsrc, e₁, hf, hJ, hNI, turn, done⟩ := h₁
  have X₁ : In s₀ R env m cm N₁ s₁ := X.of e₁ hf
  refine hsrc.it _ _ fun I fp wr St h₂ W hst hfp hwr hwn hft hk₂ hgo => ?_
  have kk : Keeps s₁ { s₁ with heap := h₂ } := ⟨h₂, s₁.toks, rfl, hk₂⟩
  have X₂ : In s₀ s₁.heap env m cm N₁ { s₁ with heap := h₂ } := X₁.rebase.of (X₁.ex.to kk X₁.tok) fun p hp => .inl hp
  -- the places of the loop's own
  have fpL : ∀ {H : Heap} {m' cm' : Str → Option Value} {N' : List (Addr × Obj)} {s' : Shared}, In s₀ s₁.heap env m' cm' N' s' → (∀ b ∈ fp, b ≠ env.locals ∧ ∀ k c, env.cells.lookup k = some c → b ≠ c) := by
    intro H m' cm' N' s' X' b hb
    have hLo : ∃ o es ep, s₁.heap.get? env.locals = some o ∧ o.data = .dict es ep := by obtain ⟨o, es, ep, ho, hd, _⟩ := X₁.ns; exact ⟨o, es, ep, ho, hd⟩
    rcases hft b hb with hb | ⟨o, its, k, ho, hd⟩
    · refine ⟨fun q => ?_, fun k c hc q => ?_⟩
      · obtain ⟨o, _, _, ho, _⟩ := hLo
        rw [← q, hwn b hb] at ho; cases ho
      · obtain ⟨o, ho, _⟩ := X₁.cell k c hc
        rw [← q, hwn b hb] at ho; cases ho
    · refine ⟨fun q => ?_, fun k c hc q => ?_⟩
      · obtain ⟨o', _, _, ho', hd'⟩ := hLo
        rw [← q, ho] at ho'; cases ho'
        rw [hd] at hd'; cases hd'
      · obtain ⟨o', ho', hd'⟩ := X₁.cell k c hc
        rw [← q, ho] at ho'; cases ho'
        rw [hd] at hd'; cases hd'
  have fpO := fpL (H := h₂) X₂
  refine codeAny_forLoop (fun k s' => ∃ i m' cm' N', In s₀ s₁.heap env m' cm' N' s' ∧ St i s'.heap ∧ J i m' cm' N' ∧ i ≤ n ∧ k = n + 1 - i) ?_ (n + 1)
    ⟨0, m, cm, N₁, X₂, hst, hJ, Nat.zero_le _, rfl⟩
  rintro k s' ⟨i, m', cm', N', X', hst', hJ', hi, rfl⟩
  have wrO : ∀ i' h', St i' h' → s'.heap = h' → ∀ b ∈ wr, ∀ p ∈ N', p.1 ≠ b := by
    intro i' h' st e b hb p hp q
    obtain ⟨o, ho, hit⟩ := hwr _ _ st b hb
    have := X'.news p hp
    rw [e, q, ho] at this
    have := hNI i m' cm' N' hJ' p hp
    simp_all
  have offs : ∀ {h₁ : Heap} {tk : Nat}, 0 < tk → (∀ b o, b ∉ wr → s'.heap.get? b = some o → h₁.get? b = some o) → In s₀ s₁.heap env m' cm' N' { s' with heap := h₁, toks := tk } := by
    intro h₁ tk ht hk₁
    refine X'.offW (W := wr) (fun b hb => ?_) hwn (fun hb => (fpO _ (W.sub _ hb)).1 rfl) (fun k c hc hb => (fpO _ (W.sub _ hb)).2 k c hc rfl) (fun p hp hb => wrO i _ hst' rfl _ hb p hp rfl) ht hk₁
    cases e : s₀.heap.get? b with
    | none => rfl
    | some o => rw [← hwn b hb, keeps_get X₁.keep e]
  by_cases hlt : i < n
  · refine wpAny_with_toks (n := s'.toks) (Nat.le_refl _) (W.item i _ _ _ hlt hst' fun v h₁ tk₁ hPv hst₁ hk₁ htk₁ => ?_)
    have Xa := offs (Nat.lt_of_lt_of_le X'.tok htk₁) hk₁
    have Xb := Xa.rebase
    refine wpAny_assign_Name (Xb.stL hk hx fun s₂ X₂' => ?_)
    refine wpAny_any (turn i v m' cm' N' _ s₂ hlt hPv hJ' X₂') fun f s₃ h₃ => ?_
    obtain ⟨rfl, m'', cm'', N'', X₃, hJ₃⟩ := h₃
    refine ⟨n + 1 - (i + 1), by omega, i + 1, m'', cm'', N'', { X₃ with since := fun b o h1 h2 h3 => X₃.since b o h1 h2 (Xa.since b o h1 h2 h3) }, ?_, hJ₃, hlt, rfl⟩
    exact W.frame _ _ _ hst₁ fun b hb o e => X₃.since b o (fpO b hb).1 (fpO b hb).2 e
  · have hin : i = n := by omega
    subst hin
    refine wpAny_with_toks (n := s'.toks) (Nat.le_refl _) (W.done _ _ _ hst' fun h₁ tk₁ hk₁ htk₁ => wpAny_execs_nil ?_)
    have Xa := offs (Nat.lt_of_lt_of_le X'.tok htk₁) hk₁
    exact done m' cm' N' _ hJ' { Xa with since := fun b o h1 h2 h3 => Xa.since b o h1 h2 (X₁.since b o h1 h2 h3) }

/-- for a, b in d.items() -/
theorem for_items {a b : Str} {pa pb pt pos apos cpos : Pos} {x1 : Nat} {o : Expr} {body : List Stmt} {d : Addr} {es : List DictEntry} {ep : Nat} {Q : Flow → Shared → Prop} (J : Nat → (Str → Option Value) → Prop) (hh : A.handled = none) (X : In s₀ R env m cm N s)
    (hd : (d, ({ cls := .type "dict", data := .dict es.toArray ep } : Obj)) ∈ N) (hg : ∀ e ∈ es, GoodE w e) (hn : (es.map keyOf).Nodup) (hdS : (d == sysModules) = false) (hk : env.scope.kind = .function) (ha : env.kindOf a = some .local) (hb : env.kindOf b = some .local)
    (hbase : attributeBase o "items" env (eval o env) = eval o env) (hline : (apos.endLine == cpos.line) = true) (ho : ∀ Q', Q' (.ref d) s → wpAny (model prog w) A (eval o env) Q' E s)
    (hJ : J 0 m)
    (turn : ∀ i e m' R' s₂, es[i]? = some e → J i m' → In s₀ R' env (upd (upd m' a e.key) b e.val) cm N s₂ →
        wpAny (model prog w) A (execs body env) (fun f s₃ => f = .next ∧ ∃ m'', In s₀ R' env m'' cm N s₃ ∧ J (i + 1) m'') (fun _ _ => False) s₂)
    (done : ∀ m' s', J es.length m' → In s₀ R env m' cm N s' → Q .next s')
    (hs : ∀ x, foldedSetIterable (.Call (.Attribute o "items" apos) [] [] cpos) env x = pure x := by intro _; rfl) :
    wpAny (model prog w) A (exec (.For (.Tuple [.Name a pa, .Name b pb] x1 pt) (.Call (.Attribute o "items" apos) [] [] cpos) body [] pos) env) Q E s := by
  have hget := X.news _ hd
  have S0 : SD w s.heap d es := ⟨⟨ep, hget⟩, hg, hn⟩
  have hat : ∀ {h : Heap}, h.get? d = some { cls := .type "dict", data := .dict es.toArray ep } → h.DictAt (strKind prog w) d (es.map fun e => (keyOf e, e.val)) ep := fun {h} e => by
    have S1 : SD w h d es := ⟨⟨ep, e⟩, hg, hn⟩
    have hk' : KeysOf (strKind prog w) es.toArray := S0.keysOf
    exact ⟨_, _, e, ⟨rfl, rfl, rfl⟩, rfl, hk', by simpa using pairs_of hg, by rw [List.map_map]; exact hn⟩
  refine wpAny_For (wpAny_Call_items hdS S0.dictOf hbase hline ho ?_) hs
  -- the view, the iterator
  refine wpAny_pyIter_items (knd := strKind prog w) (d := d) (kvs := es.map fun e => (keyOf e, e.val)) (ep := ep) ⟨_, Heap.get?_push_size _ rfl, rfl, rfl⟩ (hat (Heap.get?_push_of_some _ hget)) ?_
  generalize hH1 : s.heap.push { cls := .type "dict_items", data := .fields #[.ref d] } = H1
  have k1 : ∀ b o, s.heap.get? b = some o → H1.get? b = some o := fun b o e => by rw [← hH1]; exact Heap.get?_push_of_some _ e
  generalize hit : H1.objs.size = it
  have hitn : s.heap.get? it = none := by
    have : Keeps s { s with heap := H1 } := ⟨H1, s.toks, rfl, k1⟩
    exact fresh_at this (Nat.le_of_eq hit)
  have X₂ : In s₀ s.heap env m cm N { s with heap := H1.push { cls := .type "dict_itemiterator", data := .fields #[.none, .bool false, .ref d, .int 0 0, .int (es.map fun e => (keyOf e, e.val)).length 0, .int ep 0, .none, .none] } } :=
    X.rebase.of (X.ex.to ⟨_, s.toks, rfl, fun b o e => Heap.get?_push_of_some _ (k1 b o e)⟩ X.tok) fun p hp => .inl hp
  have hlen : (es.map fun e => (keyOf e, e.val)).length = es.length := by simp
  rw [hlen] at X₂ ⊢
  have hit₂ : IsItemIter (H1.push { cls := .type "dict_itemiterator", data := .fields #[.none, .bool false, .ref d, .int 0 0, .int es.length 0, .int ep 0, .none, .none] }) it d 0 es.length ep .none .none := by rw [← hit]; exact Heap.get?_push_size _ rfl
  have hitL : it ≠ env.locals := by obtain ⟨o, _, _, ho, _⟩ := X.ns; exact (ne_of_get ho hitn).symm
  have hitC : ∀ n c, env.cells.lookup n = some c → it ≠ c := fun n c hc => by obtain ⟨o, ho, _⟩ := X.cell n c hc; exact (ne_of_get ho hitn).symm
  have hit0 : s₀.heap.get? it = none := by
    cases e : s₀.heap.get? it with
    | none => rfl
    | some o => rw [← hitn, keeps_get X.keep e]
  have hitN : ∀ p ∈ N, p.1 ≠ it := fun p hp => ne_of_get (X.news p hp) hitn
  refine codeAny_forLoop_any (fun k s' => ∃ i m' ok ov, In s₀ s.heap env m' cm N s' ∧ IsItemIter s'.heap it d i es.length ep ok ov ∧ J i m' ∧ i ≤ es.length ∧ k = es.length + 1 - i) ?_ (es.length + 1)
    ⟨0, m, .none, .none, X₂, hit₂, hJ, Nat.zero_le _, rfl⟩
  rintro k s' ⟨i, m', ok, ov, X', hi', hJ', hi, rfl⟩
  have off : ∀ {s₁ : Shared} {m₁ : Str → Option Value} {h₁ : Heap} {tk : Nat}, In s₀ s.heap env m₁ cm N s₁ → 0 < tk → (∀ b o, b ≠ it → s₁.heap.get? b = some o → h₁.get? b = some o) → In s₀ s.heap env m₁ cm N { s₁ with heap := h₁, toks := tk } := by
    intro s₁ m₁ h₁ tk X₁ ht hk₁
    exact X₁.offW (W := [it]) (fun b hb => by rw [List.mem_singleton.mp hb]; exact hit0) (fun b hb => by rw [List.mem_singleton.mp hb]; exact hitn) (fun hb => hitL (List.mem_singleton.mp hb).symm) (fun n c hc hb => hitC n c hc (List.mem_singleton.mp hb).symm)
      (fun p hp hb => hitN p hp (List.mem_singleton.mp hb)) ht fun b o hb e => hk₁ b o (fun q => hb (by rw [q]; exact List.mem_cons_self)) e
  cases hv : es[i]? with
  | none =>
    have hin : i = es.length := Nat.le_antisymm hi (by simpa using hv)
    have hi'' : IsItemIter s'.heap it d i (es.map fun e => (keyOf e, e.val)).length ep ok ov := by rw [hlen]; exact hi'
    refine wpAny_pyNext_items_end (kvs := es.map fun e => (keyOf e, e.val)) hh hi'' (hat (X'.news _ hd)) (by rw [List.getElem?_map, hv]; rfl) fun h₁ he₁ => wpAny_execs_nil ?_
    have Xa := off (tk := s'.toks) X' X'.tok fun b o hb e => he₁ b o hb e
    exact done m' _ (hin ▸ hJ') { Xa with since := fun b o h1 h2 h3 => Xa.since b o h1 h2 (X.since b o h1 h2 h3) }
  | some e =>
    have hlt : i < es.length := (List.getElem?_eq_some_iff.mp hv).1
    refine items_item hi' (X'.news _ hd) hv fun h₁ hout ht₁ hz₁ hk₁ => ?_
    refine wpAny_letOwnedTupleGo_items hout fun h₂ hi₂ hs₂ => ?_
    replace hs₂ : Heap.SameBut it h₁ h₂ := hs₂
    have hitlt : it < s'.heap.objs.size := Heap.lt_size hi'
    have hT : h₂.IsTuple s'.heap.objs.size #[e.key, e.val] := ⟨_, (hs₂.2 _ (Nat.ne_of_gt hitlt)).trans ht₁, rfl, _, rfl⟩
    have Xa := off (tk := s'.toks) X' X'.tok (h₁ := h₂) fun b o hb q => hs₂.extBut b o hb (hk₁ b o hb q)
    refine wpAny_any (assign_tuple2 (s := { s' with heap := h₂ }) hh hT Xa.ns ha hb (by rw [hk]; rfl)) fun _ s₃ h₃ => ?_
    obtain ⟨h₃, tk₃, rfl, hn₃, htk, hk₃⟩ := h₃
    have Xb := Xa.ofL hn₃ (Nat.lt_of_lt_of_le Xa.tok htk) hk₃
    refine wpAny_any (turn i e m' _ _ hv hJ' Xb.rebase) fun f s₄ h₄ => ?_
    obtain ⟨rfl, m'', X₄, hJ₄⟩ := h₄
    refine ⟨es.length + 1 - (i + 1), by omega, i + 1, m'', e.key, e.val, { X₄ with since := fun b o h1 h2 h3 => X₄.since b o h1 h2 (Xb.since b o h1 h2 h3) }, ?_, hJ₄, hlt, rfl⟩
    exact X₄.since it _ hitL hitC (hk₃ it _ hitL hi₂)
end
end Mine

namespace Mine

/-- the entries of a table of replacements -/
def RepE (es : List DictEntry) (kvs : List (Str × Str)) : Prop := Paired (fun e p => ∃ u v, e.key = .str p.1 u ∧ e.val = .str p.2 v ∧ u ≠ 0 ∧ v ≠ 0 ∧ u ≠ v ∧ (p.1 == p.2) = false) es kvs
def repAll (kvs : List (Str × Str)) (x : Str) : Str := kvs.foldl (fun x p => Txt.replace x p.1 p.2) x
/-- the room for the texts on the way -/
def RepFits : List (Str × Str) → Nat → Prop
  | [], _ => True
  | p :: r, n => n + (n + 1) * p.2.length ≤ 16777216 ∧ RepFits r (n + (n + 1) * p.2.length)

theorem paired_at {α β : Type} {F : α → β → Prop} : ∀ {l₁ : List α} {l₂ : List β}, Paired F l₁ l₂ → ∀ (i : Nat) (a : α), l₁[i]? = some a → ∃ b, l₂[i]? = some b ∧ F a b
  | _, _, .nil, i, a, h => by simp at h
  | _, _, .cons hf _, 0, a, h => by simp at h; subst h; exact ⟨_, rfl, hf⟩
  | _, _, .cons _ t, i + 1, a, h => by simpa using paired_at t i a (by simpa using h)

theorem repFits_at : ∀ (kvs : List (Str × Str)) (n : Nat) (x : Str), x.length ≤ n → RepFits kvs n → ∀ i p, kvs[i]? = some p → (repAll (kvs.take i) x).length + ((repAll (kvs.take i) x).length + 1) * p.2.length ≤ 16777216
  | [], _, _, _, _, i, p, h => by simp at h
  | q :: r, n, x, hx, hf, 0, p, h => by
    simp at h; subst h
    show x.length + (x.length + 1) * q.2.length ≤ _
    have := hf.1
    have h2 : (x.length + 1) * q.2.length ≤ (n + 1) * q.2.length := Nat.mul_le_mul_right _ (by omega)
    omega
  | q :: r, n, x, hx, hf, i + 1, p, h => by
    have hlen : (Txt.replace x q.1 q.2).length ≤ n + (n + 1) * q.2.length := by
      have := replaced_len x q.1 q.2
      have h2 : (x.length + 1) * q.2.length ≤ (n + 1) * q.2.length := Nat.mul_le_mul_right _ (by omega)
      omega
    have := repFits_at r _ (Txt.replace x q.1 q.2) hlen hf.2 i p (by simpa using h)
    simpa [repAll] using this
theorem repAll_take_succ (kvs : List (Str × Str)) (x : Str) (i : Nat) (p : Str × Str) (h : kvs[i]? = some p) : repAll (kvs.take (i + 1)) x = Txt.replace (repAll (kvs.take i) x) p.1 p.2 := by
  simp [repAll, List.take_add_one, h, List.foldl_append]

section
variable {prog : Program} {w : World} {A : Around} {s : Shared}

theorem dictReplace_call {x : Str} {t : Tok} {d : Addr} {es : List DictEntry} {kvs : List (Str × Str)} {n : Nat} (r : Room 2 A) (hB : Base s.heap) (ht : 0 < s.toks) (hd : SD w s.heap d es) (hdS : (d == sysModules) = false) (he : RepE es kvs) (hx : x.length ≤ n) (hf : RepFits kvs n) :
    wpAny (model prog w) A (call (.ref 21) [.str x t, .ref d]) (fun v s' => (∃ t', v = .str (repAll kvs x) t') ∧ Keeps s s') (fun _ _ => False) s := by
  obtain ⟨ep, hget⟩ := hd.get
  refine call_def (i := 1) (N := [(d, { cls := .type "dict", data := .dict es.toArray ep })]) (binds := [(Str.ofString "s", .str x t), (Str.ofString "d", .ref d)]) hB ht (fun p hp => by rw [List.mem_singleton.mp hp]; exact hget) hB.f21 r.depth (fun nm q doc pm cd ct an => BindsTo.of_eq rfl) ?_ rfl rfl rfl ?_
  · intro L p hp
    rcases List.mem_cons.mp hp with rfl | hp
    · exact .inl rfl
    · rw [List.mem_singleton.mp hp]; exact .inl rfl
  · intro q cd s₁ X
    have hlen : es.length = kvs.length := he.length
    refine wpAny_execs_cons (for_items (J := fun i m' => ∃ t', m' (Str.ofString "s") = some (.str (repAll (kvs.take i) x) t')) r.hh X List.mem_cons_self hd.keys hd.nodup hdS rfl rfl rfl rfl rfl ?_ ⟨t, rfl⟩ ?_ ?_)
    · intro Q' hq
      exact X.local_ rfl hq
    · intro i e m' R' s₂ hv hJ X₂
      obtain ⟨t', hm'⟩ := hJ
      obtain ⟨p, hp, u, v, hek, hev, hu, hv0, huv, hyz⟩ := paired_at he i e hv
      refine wpAny_execs_cons (In.assignL X₂ (Ex.replace_ rfl rfl rfl (X₂.ex.local_ (v := .str (repAll (kvs.take i) x) t') hm' ⟨_, _, rfl, X₂.ex.local_ (v := e.key) rfl (X₂.ex.local_ (v := e.val) rfl
        ⟨p.1, u, p.2, v, hek, hev, hu, hv0, huv, hyz, repFits_at kvs n x hx hf i p hp, X₂.ex, fun t'' s' X' => ⟨_, X', fun q hq => .inl hq, fun s'' X'' => wpAny_execs_nil ?_⟩⟩)⟩)))
      exact ⟨rfl, _, X'', t'', by rw [repAll_take_succ kvs x i p hp]; rfl⟩
    · intro m' s' hJ X'
      obtain ⟨t', hm'⟩ := hJ
      rw [hlen, List.take_length] at hm'
      exact wpAny_execs_cons (wpAny_Return_some (X'.ex.local_ hm' ⟨_, rfl, ⟨t', rfl⟩, X'.keep⟩))
end
end Mine

namespace Mine

def amp : Str := Str.ofString "&amp;"
def gt : Str := Str.ofString "&gt;"
def lt : Str := Str.ofString "&lt;"
def esc (x : Str) : Str := Txt.replace (Txt.replace (Txt.replace x (Str.ofString "&") amp) (Str.ofString ">") gt) (Str.ofString "<") lt

theorem len_le (x y z : Str) {n k : Nat} (hx : x.length ≤ n) (hz : z.length = k) : (Txt.replace x y z).length ≤ n + (n + 1) * k := by
  have := replaced_len x y z
  have h2 : (x.length + 1) * z.length ≤ (n + 1) * z.length := Nat.mul_le_mul_right _ (by omega)
  rw [hz] at *
  omega
theorem esc_len {x : Str} (hx : x.length ≤ 2) : (esc x).length ≤ 449 := by
  have h1 := len_le x (Str.ofString "&") amp hx (k := 5) (by decide)
  have h2 := len_le _ (Str.ofString ">") gt h1 (k := 4) (by decide)
  exact len_le _ (Str.ofString "<") lt h2 (k := 4) (by decide)

section
variable {prog : Program} {w : World} {A : Around} {E : Value → Shared → Prop} {s₀ s : Shared} {R : Heap} {env : Env} {m cm : Str → Option Value} {N : List (Addr × Obj)}

/-- v = v.replace("y", "z") -/
theorem In.replaceLit {v y z : Str} {x : Str} {t : Tok} {p1 p2 p3 p4 p5 pos cp : Pos} {k1 k2 : Nat} {Q : Flow → Shared → Prop} (X : In s₀ R env m cm N s) (hv : m v = some (.str x t)) (hyz : (y == z) = false) (hb : x.length + (x.length + 1) * z.length ≤ 16777216)
    (h : ∀ t' s', In s₀ R env (upd m v (.str (Txt.replace x y z) t')) cm N s' → Q .next s')
    (hk : env.scope.kind = .function := by rfl) (hl : env.kindOf v = some .local := by rfl) (hd : (v == ("__debug__" : Str)) = false := by decide)
    (hbase : attributeBase (.Name v p2) "replace" env (eval (.Name v p2) env) = eval (.Name v p2) env := by rfl) (hline : (p3.endLine == cp.line) = true := by rfl)
    (hsw : swapsWith (.Call (.Attribute (.Name v p2) "replace" p3) [.Constant (.str y) k1 p4, .Constant (.str z) k2 p5] [] cp) (some (.Name v p1)) pos.line env = pure false := by rfl) :
    wpAny (model prog w) A (exec (.Assign [.Name v p1] (.Call (.Attribute (.Name v p2) "replace" p3) [.Constant (.str y) k1 p4, .Constant (.str z) k2 p5] [] cp) pos) env) Q E s := by
  refine In.assignL X (Ex.replace_ (s₀ := s) (m := m) (cm := cm) (N := N) hbase hline rfl (X.ex.local_ hv ⟨x, t, rfl, Calls.Constant_str (Calls.Constant_str ⟨y, s.toks, z, s.toks + 1, rfl, rfl, Nat.ne_of_gt X.tok, Nat.succ_ne_zero _, (Nat.ne_of_lt (Nat.lt_succ_self _)), hyz, hb, X.ex.tk1.tk1, fun t' s' X' => ⟨N, X', fun q hq => .inl hq, fun s'' X'' => h t' s'' X''⟩⟩)⟩ hk hl hd)) hk hl hsw
end

section
variable {prog : Program} {w : World} {A : Around} {E : Value → Shared → Prop} {s₀ s : Shared} {R : Heap} {env : Env} {m cm : Str → Option Value} {N : List (Addr × Obj)}

/-- f(e, ..), f a def of the text's -/
theorem Ex.callDef {f : Str} {a i : Nat} {dV : Value} {p pos : Pos} {e : Expr} {args : List Expr} {x : Sem Value} {rest : List (Bool × Sem Value)} {Q : Value → Shared → Prop} (X : Ex s₀ env m cm N s) (hf : ∀ h, Base h → FnAt h a i dV) (htr : backTo pos (starEach (e :: args) env) = (false, x) :: rest)
    (hg : (f, Value.ref a) ∈ globTab)
    (h : wpAny (model prog w) A (spliced ((false, x) :: rest)) (fun vs s₁ => Keeps s s₁ ∧ wpAny (model prog w) A (call (.ref a) vs) Q E s₁) E s)
    (hk : env.scope.kind = .function := by rfl) (hl : env.kindOf f = some .globalImplicit := by rfl) (hgl : env.globals = mainGlobals := by rfl) (hd : (f == ("__debug__" : Str)) = false := by decide) :
    wpAny (model prog w) A (eval (.Call (.Name f p) (e :: args) [] pos) env) Q E s := by
  refine wpAny_Call_Name_kw (X.glob_ hg ?_ hk hl hgl hd)
  rw [htr]
  obtain ⟨o, nm, q, doc, pm, cd, ct, an, ho, hd', _⟩ := (hf _ X.base).at_
  refine Calls.callWith_function (o := o) (fd := mkFd i nm q dV doc pm cd ct an) (Calls.evalArgs_plain (wpAny_mono h (fun vs s₁ h₁ => ?_) fun _ _ e => e))
  exact ⟨⟨keeps_get h₁.1 ho, hd'⟩, h₁.2⟩
/-- f(e, ..), f a built-in function -/
theorem Ex.callBuilt {f : Str} {id : String} {p pos : Pos} {e : Expr} {args : List Expr} {x : Sem Value} {rest : List (Bool × Sem Value)} {Q : Value → Shared → Prop} (X : Ex s₀ env m cm N s) (htr : backTo pos (starEach (e :: args) env) = (false, x) :: rest) (hpl : rest.any (·.1) = false)
    (hg : (f, Value.builtin id) ∈ builtTab)
    (h : wpAny (model prog w) A (spliced ((false, x) :: rest)) (fun vs s₁ => wpAny (model prog w) A (call (.builtin id) vs) Q E s₁) E s)
    (hk : env.scope.kind = .function := by rfl) (hl : env.kindOf f = some .globalImplicit := by rfl) (hgl : env.globals = mainGlobals := by rfl) (hb : env.builtins = builtinsNs := by rfl) (hd : (f == ("__debug__" : Str)) = false := by decide) :
    wpAny (model prog w) A (eval (.Call (.Name f p) (e :: args) [] pos) env) Q E s := by
  refine wpAny_Call_Name_kw (X.built_ hg ?_ hk hl hgl hb hd)
  rw [htr]
  exact Calls.callWith_builtin (by simpa using hpl) (Calls.evalArgs_plain h)
theorem Ex.callType {f : Str} {T : String} {p pos : Pos} {e : Expr} {x : Sem Value} {Q : Value → Shared → Prop} (X : Ex s₀ env m cm N s) (htr : backTo pos (starEach [e] env) = [(false, x)])
    (hg : (f, Value.type T) ∈ builtTab)
    (h : wpAny (model prog w) A x (fun v s₁ => wpAny (model prog w) A (call (.type T) [v]) Q E s₁) E s)
    (hk : env.scope.kind = .function := by rfl) (hl : env.kindOf f = some .globalImplicit := by rfl) (hgl : env.globals = mainGlobals := by rfl) (hb : env.builtins = builtinsNs := by rfl) (hd : (f == ("__debug__" : Str)) = false := by decide) :
    wpAny (model prog w) A (eval (.Call (.Name f p) [e] [] pos) env) Q E s := by
  refine wpAny_Call_Name_kw (X.built_ hg ?_ hk hl hgl hb hd)
  rw [htr]
  exact PySem.callWith_type rfl (Calls.evalArgs_plain (spliced1 h))
end

section
variable {prog : Program} {w : World} {A : Around} {s : Shared}

theorem escape_call {x : Str} {t : Tok} {d : Addr} {es : List DictEntry} {kvs : List (Str × Str)} {vals : List Value} (r : Room 4 A) (hB : Base s.heap) (ht : 0 < s.toks) (hd : SD w s.heap d es) (hdS : (d == sysModules) = false) (he : RepE es kvs) (hx : x.length ≤ 2) (hf : RepFits kvs 449) (hkl : kvs.length ≤ 1000)
    (hv : vals = [.str x t, .ref d] ∨ (vals = [.str x t] ∧ d = 22)) :
    wpAny (model prog w) A (call (.ref 30) vals) (fun v s' => (∃ t', v = .str (repAll kvs (esc x)) t') ∧ Keeps s s') (fun _ _ => False) s := by
  obtain ⟨ep, hget⟩ := hd.get
  refine call_def (i := 2) (N := [(d, { cls := .type "dict", data := .dict es.toArray ep })]) (binds := [(Str.ofString "data", .str x t), (Str.ofString "entities", .ref d)]) hB ht (fun p hp => by rw [List.mem_singleton.mp hp]; exact hget) hB.f30 r.depth (fun nm q doc pm cd ct an => ?_) ?_ rfl rfl rfl ?_
  · rcases hv with rfl | ⟨rfl, rfl⟩
    · exact BindsTo.of_defaults rfl hB.d23 rfl rfl rfl
    · exact BindsTo.of_defaults rfl hB.d23 rfl rfl rfl
  · intro L p hp
    rcases List.mem_cons.mp hp with rfl | hp
    · exact .inl rfl
    · rw [List.mem_singleton.mp hp]; exact .inl rfl
  · intro q cd s₁ X
    have h1 := len_le x (Str.ofString "&") amp hx (k := 5) (by decide)
    have h2 := len_le _ (Str.ofString ">") gt h1 (k := 4) (by decide)
    refine wpAny_execs_cons (X.replaceLit (x := x) (t := t) rfl (by decide) (by show x.length + (x.length + 1) * 5 ≤ _; omega) fun t1 s2 X => ?_)
    refine wpAny_execs_cons (X.replaceLit (t := t1) rfl (by decide) (by show _ + (_ + 1) * 4 ≤ _; have : (Txt.replace x (Str.ofString "&") amp).length ≤ 17 := h1; change (Txt.replace x (Str.ofString "&") amp).length + ((Txt.replace x (Str.ofString "&") amp).length + 1) * 4 ≤ _; omega) fun t2 s3 X => ?_)
    refine wpAny_execs_cons (X.replaceLit (t := t2) rfl (by decide) (by
      have : (Txt.replace (Txt.replace x (Str.ofString "&") amp) (Str.ofString ">") gt).length ≤ 89 := h2
      change (Txt.replace (Txt.replace x (Str.ofString "&") amp) (Str.ofString ">") gt).length + ((Txt.replace (Txt.replace x (Str.ofString "&") amp) (Str.ofString ">") gt).length + 1) * 4 ≤ _
      omega) fun t3 s4 X => ?_)
    have hlen : es.length = kvs.length := he.length
    have hS4 : SD w s4.heap d es := hd.at fun o e => keeps_get X.keep e
    have fitsD : ((es.map fun e => (keyOf e, e.val)).length : Int) < 2 ^ 63 := by
      have : es.length ≤ 1000 := hlen ▸ hkl
      simp only [List.length_map]; omega
    refine wpAny_execs_cons (wpAny_If (wpAny_isTrue_value (X.ex.local_ (v := .ref d) rfl (wpAny_truthy_dict hdS hS4.dictOf fitsD ?_))))
    have X5 := X.of (X.ex.tk 2) fun p hp => .inl hp
    cases es with
    | nil =>
      have hk : kvs = [] := List.length_eq_zero_iff.mp (by simpa using hlen.symm)
      subst hk
      refine wpAny_execs_nil (wpAny_execs_cons (wpAny_Return_some (X5.ex.local_ rfl ⟨_, rfl, ⟨t3, rfl⟩, X5.keep⟩)))
    | cons e0 er =>
      refine wpAny_execs_cons (In.assignL X5 (Ex.callDef X5.ex (fun h b => b.f21) rfl (by decide) (spliced2 (X5.ex.local_ rfl (X5.ex.local_ rfl ⟨keeps_refl _, ?_⟩)))))
      refine X5.ex.step (dictReplace_call (r.deeper _).le (n := 449) X5.base X5.tok (hd.at fun o e => keeps_get X5.keep e) hdS he (esc_len hx) hf) fun v s6 hv k6 X6 => ?_
      obtain ⟨t6, rfl⟩ := hv
      exact ⟨_, X6, fun p hp => .inl hp, fun s7 X7 => wpAny_execs_nil (wpAny_execs_cons (wpAny_Return_some (X7.ex.local_ rfl ⟨_, rfl, ⟨t6, rfl⟩, X7.keep⟩)))⟩
end
end Mine

namespace Mine

def dq : Str := Str.ofString "\""
def sq : Str := Str.ofString "'"
section
variable {prog : Program} {w : World} {A : Around} {E : Value → Shared → Prop} {s : Shared} {y : Str} {t u : Tok} {Q : Value → Shared → Prop}
theorem mod_dq (hy : y.length ≤ 1000000) (h : ∀ t' k, Q (.str (dq ++ y ++ dq) t') { s with toks := k }) : wpAny (model prog w) A (binaryOp .Mod (.str (Str.ofString "\"%s\"") t) (.str y u)) Q E s := by
  refine' KPc.mod_str (T := fun y => dq ++ y ++ dq) ?kpcF ?kpcl ?kpcm ?_
  case kpcF => kpc_eq
  case kpcl => exact hy
  case kpcm => k_dflt kpc_run_s
  exact h
theorem mod_sq (hy : y.length ≤ 1000000) (h : ∀ t' k, Q (.str (sq ++ y ++ sq) t') { s with toks := k }) : wpAny (model prog w) A (binaryOp .Mod (.str (Str.ofString "'%s'") t) (.str y u)) Q E s := by
  refine' KPc.mod_str (T := fun y => sq ++ y ++ sq) ?kpcF ?kpcl ?kpcm ?_
  case kpcF => kpc_eq
  case kpcl => exact hy
  case kpcm => k_dflt kpc_run_s
  exact h
end
end Mine

namespace Mine

def nrt : List (Str × Str) := [(Str.ofString "\n", Str.ofString "&#10;"), (Str.ofString "\r", Str.ofString "&#13;"), (Str.ofString "\t", Str.ofString "&#9;")]
def hasSub (x y : Str) : Bool := !(Builtin.Str.occurrences x y 0 x.length 1).isEmpty
def quo1 (x : Str) : Str := repAll nrt (esc x)
def quo (x : Str) : Str :=
  if hasSub (quo1 x) dq then (if hasSub (quo1 x) sq then dq ++ Txt.replace (quo1 x) dq (Str.ofString "&quot;") ++ dq else sq ++ quo1 x ++ sq) else dq ++ quo1 x ++ dq

theorem quo1_len {x : Str} (hx : x.length ≤ 2) : (quo1 x).length ≤ 80999 := by
  have h0 := esc_len hx
  have h1 := len_le (esc x) (Str.ofString "\n") (Str.ofString "&#10;") h0 (k := 5) (by decide)
  have h2 := len_le _ (Str.ofString "\r") (Str.ofString "&#13;") h1 (k := 5) (by decide)
  exact len_le _ (Str.ofString "\t") (Str.ofString "&#9;") h2 (k := 4) (by decide)
theorem Base.big {h : Heap} (b : Base h) : sysModules < h.objs.size := by
  obtain ⟨mg, mb, h1, _⟩ := b.glob
  have : mainGlobals < h.objs.size := h1.lt
  exact Nat.lt_trans (by decide) this

abbrev nrtVs (t : Nat) : List (Value × Value) := [(.str (Str.ofString "\n") t, .str (Str.ofString "&#10;") (t + 1)), (.str (Str.ofString "\r") (t + 2), .str (Str.ofString "&#13;") (t + 3)), (.str (Str.ofString "\t") (t + 4), .str (Str.ofString "&#9;") (t + 5))]
theorem nrt_rep (w : World) {t : Nat} (ht : 0 < t) : RepE (entsOf w (nrtVs t)) nrt := by
  have ne : ∀ k : Nat, k ≠ k + 1 := fun k => Nat.ne_of_lt (Nat.lt_succ_self k)
  exact .cons ⟨t, t + 1, rfl, rfl, Nat.ne_of_gt ht, Nat.succ_ne_zero _, ne _, by decide⟩ (.cons ⟨t + 2, t + 3, rfl, rfl, Nat.succ_ne_zero _, Nat.succ_ne_zero _, ne _, by decide⟩ (.cons ⟨t + 4, t + 5, rfl, rfl, Nat.succ_ne_zero _, Nat.succ_ne_zero _, ne _, by decide⟩ .nil))

section
variable {prog : Program} {w : World} {A : Around} {s : Shared}

theorem Ex.modDq {A : Around} {E : Value → Shared → Prop} {s₀ s : Shared} {env : Env} {m cm : Str → Option Value} {N : List (Addr × Obj)} {y : Str} {t u : Tok} {Q : Value → Shared → Prop} (X : Ex s₀ env m cm N s) (hy : y.length ≤ 1000000) (hq : ∀ t' s', Ex s₀ env m cm N s' → Q (.str (dq ++ y ++ dq) t') s') :
    wpAny (model prog w) A (binaryOp .Mod (.str (Str.ofString "\"%s\"") t) (.str y u)) Q E s :=
  X.step (P := fun v _ => ∃ t', v = .str (dq ++ y ++ dq) t') (mod_dq hy fun t' k => ⟨⟨t', rfl⟩, keeps_tok _ _⟩) fun v s' hv _ X' => by obtain ⟨t', rfl⟩ := hv; exact hq t' s' X'
theorem Ex.modSq {A : Around} {E : Value → Shared → Prop} {s₀ s : Shared} {env : Env} {m cm : Str → Option Value} {N : List (Addr × Obj)} {y : Str} {t u : Tok} {Q : Value → Shared → Prop} (X : Ex s₀ env m cm N s) (hy : y.length ≤ 1000000) (hq : ∀ t' s', Ex s₀ env m cm N s' → Q (.str (sq ++ y ++ sq) t') s') :
    wpAny (model prog w) A (binaryOp .Mod (.str (Str.ofString "'%s'") t) (.str y u)) Q E s :=
  X.step (P := fun v _ => ∃ t', v = .str (sq ++ y ++ sq) t') (mod_sq hy fun t' k => ⟨⟨t', rfl⟩, keeps_tok _ _⟩) fun v s' hv _ X' => by obtain ⟨t', rfl⟩ := hv; exact hq t' s' X'

theorem In.ifIn {A : Around} {E : Value → Shared → Prop} {s₀ s : Shared} {R : Heap} {env : Env} {m cm : Str → Option Value} {N : List (Addr × Obj)} {v lit y : Str} {t : Tok} {k : Nat} {p1 p2 p3 pos : Pos} {body orelse : List Stmt} {Q : Flow → Shared → Prop} (X : In s₀ R env m cm N s) (hm : m v = some (.str y t))
    (h : ∀ s', In s₀ R env m cm N s' → if hasSub y lit = true then wpAny (model prog w) A (execs body env) Q E s' else wpAny (model prog w) A (execs orelse env) Q E s')
    (hk : env.scope.kind = .function := by rfl) (hl : env.kindOf v = some .local := by rfl) (hd : (v == ("__debug__" : Str)) = false := by decide) :
    wpAny (model prog w) A (exec (.If (.Compare (.Constant (.str lit) k p1) [.In] [.Name v p2] p3) body orelse pos) env) Q E s :=
  wpAny_If (wpAny_isTrue_Compare1 (Calls.Constant_str (X.ex.tk1.local_ hm (P.in_str (wpAny_truthy_bool (h _ (X.of X.ex.tk1 fun p hp => .inl hp)))) hk hl hd)))
/-- v = v.replace("y", "z") % .. -/
theorem Ex.replaceLit {A : Around} {E : Value → Shared → Prop} {s₀ s : Shared} {env : Env} {m cm : Str → Option Value} {N : List (Addr × Obj)} {v y z x : Str} {t : Tok} {p2 p3 p4 p5 cp : Pos} {k1 k2 : Nat} {Q : Value → Shared → Prop} (X : Ex s₀ env m cm N s) (hv : m v = some (.str x t)) (hyz : (y == z) = false) (hb : x.length + (x.length + 1) * z.length ≤ 16777216)
    (h : ∀ t' s', Ex s₀ env m cm N s' → Q (.str (Txt.replace x y z) t') s')
    (hk : env.scope.kind = .function := by rfl) (hl : env.kindOf v = some .local := by rfl) (hd : (v == ("__debug__" : Str)) = false := by decide)
    (hbase : attributeBase (.Name v p2) "replace" env (eval (.Name v p2) env) = eval (.Name v p2) env := by rfl) (hline : (p3.endLine == cp.line) = true := by rfl) :
    wpAny (model prog w) A (eval (.Call (.Attribute (.Name v p2) "replace" p3) [.Constant (.str y) k1 p4, .Constant (.str z) k2 p5] [] cp) env) Q E s :=
  Ex.replace_ (s₀ := s₀) (m := m) (cm := cm) (N := N) hbase hline rfl (X.local_ hv ⟨x, t, rfl, Calls.Constant_str (Calls.Constant_str ⟨y, s.toks, z, s.toks + 1, rfl, rfl, Nat.ne_of_gt X.tok, Nat.succ_ne_zero _, (Nat.ne_of_lt (Nat.lt_succ_self _)), hyz, hb, X.tk1.tk1, h⟩)⟩ hk hl hd)

theorem In.retName {A : Around} {s₀ s : Shared} {R : Heap} {env : Env} {m cm : Str → Option Value} {N : List (Addr × Obj)} {x : Str} {p1 p2 : Pos} {v : Value} {Q : Value → Shared → Prop} (X : In s₀ R env m cm N s) (hm : m x = some v) (hq : Q v s)
    (hk : env.scope.kind = .function := by rfl) (hl : env.kindOf x = some .local := by rfl) (hd : (x == ("__debug__" : Str)) = false := by decide) :
    wpAny (model prog w) A (execs [.Return (some (.Name x p1)) p2] env) (fun f s' => ∃ v, f = Flow.ret v ∧ Q v s') (fun _ _ => False) s :=
  wpAny_execs_cons (wpAny_Return_some (X.ex.local_ hm ⟨_, rfl, hq⟩ hk hl hd))

theorem quoteattr_call {x : Str} {t : Tok} (r : Room 6 A) (hB : Base s.heap) (ht : 0 < s.toks) (hx : x.length ≤ 2) :
    wpAny (model prog w) A (call (.ref 39) [.str x t]) (fun v s' => (∃ t', v = .str (quo x) t') ∧ Keeps s s') (fun _ _ => False) s := by
  have S31 : SD w s.heap 31 [] := ⟨⟨0, hB.d31⟩, fun e he => (by cases he), by simp⟩
  refine call_def (i := 3) (N := []) (binds := [(Str.ofString "data", .str x t), (Str.ofString "entities", .ref 31)]) hB ht (fun p hp => by cases hp) hB.f39 r.depth (fun nm q doc pm cd ct an => BindsTo.of_defaults rfl hB.d32 rfl rfl rfl) ?_ rfl rfl rfl ?_
  · intro L p hp
    rcases List.mem_cons.mp hp with rfl | hp
    · exact .inl rfl
    · rw [List.mem_singleton.mp hp]; exact .inl rfl
  · intro q cd s₁ X
    refine wpAny_execs_cons (In.assignL X ?_)
    refine X.ex.step (dict_first (w := w) (P := fun vs => ∃ t, 0 < t ∧ vs = nrtVs t) (o := 31) rfl rfl (List.cons_ne_nil _ _) (by decide) ?_ (S31.at fun o e => keeps_get X.keep e) (by decide) X.base.big ?_ ?_) ?_
    · intro s₂ k ht
      exact ((X.ex.to k (Nat.lt_of_lt_of_le X.tok ht)).root.local_ rfl ⟨rfl, keeps_refl _⟩)
    · intro s₂ k ht
      have h0 : 0 < s₂.toks := Nat.lt_of_lt_of_le X.tok ht
      refine pairTrees_cons_walk (Calls.Constant_str (Calls.Constant_str (pairTrees_cons_walk (Calls.Constant_str (Calls.Constant_str (pairTrees_cons_walk (Calls.Constant_str (Calls.Constant_str (pairTrees_nil_walk ?_)))))))))
      exact ⟨⟨s₂.toks, h0, rfl⟩, keeps_tok _ _⟩
    · rintro vs ⟨t, h0, rfl⟩
      refine ⟨fun p hp => ?_, ?_⟩
      · simp only [List.mem_cons, List.mem_nil_iff, or_false] at hp
        rcases hp with rfl | rfl | rfl <;> exact ⟨_, _, rfl⟩
      · show [Str.ofString "\n", Str.ofString "\r", Str.ofString "\t"].Nodup
        decide
    · rintro v s₂ ⟨D, vs, rfl, ⟨t0, h0, rfl⟩, hD, hS⟩ k X2
      obtain ⟨ep, hget⟩ := hS.get
      have hDn : s₁.heap.get? D = none := fresh_at (keeps_refl s₁) (Nat.le_of_eq hD.symm)
      have hDS : (D == sysModules) = false := by
        have : sysModules < D := hD ▸ X.base.big
        simpa using Nat.ne_of_gt this
      refine ⟨_, X2.add hget, fun p hp => ?_, fun s₃ X3 => ?_⟩
      · rw [List.mem_singleton.mp hp]; exact .inr hDn
      have hS3 : SD w s₃.heap D (entsOf w (nrtVs t0)) := ⟨⟨ep, X3.news _ List.mem_cons_self⟩, hS.keys, hS.nodup⟩
      have len := quo1_len hx
      refine wpAny_execs_cons (In.assignL X3 (Ex.callDef X3.ex (fun h b => b.f30) rfl (by decide) (spliced2 (X3.ex.local_ (v := .str x t) rfl (X3.ex.local_ (v := .ref D) rfl ⟨keeps_refl _, ?_⟩)))))
      refine X3.ex.step (escape_call (r.deeper _).le X3.base X3.tok hS3 hDS (nrt_rep w h0) hx ⟨by decide, by decide, by decide, trivial⟩ (by decide) (.inl rfl)) ?_
      rintro v s₄ ⟨t4, rfl⟩ k4 X4
      refine ⟨_, X4, fun p hp => .inl hp, fun s₅ X5 => ?_⟩
      have fit : (quo1 x).length ≤ 1000000 := by omega
      have fit2 : (Txt.replace (quo1 x) dq (Str.ofString "&quot;")).length ≤ 1000000 := by
        have := len_le (quo1 x) dq (Str.ofString "&quot;") len (k := 6) (by decide)
        omega
      refine wpAny_execs_cons (X5.ifIn (y := quo1 x) (t := t4) rfl fun s6 X6 => ?_)
      change (if hasSub (quo1 x) dq = true then _ else _)
      cases h1 : hasSub (quo1 x) dq with
      | false =>
        rw [if_neg Bool.false_ne_true]
        refine wpAny_execs_cons (In.assignL X6 (wpAny_BinOp (Calls.Constant_str (X6.ex.tk1.local_ (v := .str (quo1 x) t4) rfl (X6.ex.tk1.modDq fit fun t' s' X7 => ⟨_, X7, fun p hp => .inl hp, fun s8 X8 => wpAny_execs_nil ?_⟩)))))
        exact X8.retName rfl ⟨⟨t', by rw [quo, h1]; rfl⟩, X8.keep⟩
      | true =>
        rw [if_pos rfl]
        refine wpAny_execs_cons (X6.ifIn (y := quo1 x) (t := t4) rfl fun s7 X7 => ?_)
        change (if hasSub (quo1 x) sq = true then _ else _)
        cases h2 : hasSub (quo1 x) sq with
        | false =>
          rw [if_neg Bool.false_ne_true]
          refine wpAny_execs_cons (In.assignL X7 (wpAny_BinOp (Calls.Constant_str (X7.ex.tk1.local_ (v := .str (quo1 x) t4) rfl (X7.ex.tk1.modSq fit fun t' s' X8 => ⟨_, X8, fun p hp => .inl hp, fun s9 X9 => wpAny_execs_nil (wpAny_execs_nil ?_)⟩)))))
          exact X9.retName rfl ⟨⟨t', by rw [quo, h1, h2]; rfl⟩, X9.keep⟩
        | true =>
          rw [if_pos rfl]
          refine wpAny_execs_cons (In.assignL X7 (wpAny_BinOp (Calls.Constant_str (X7.ex.tk1.replaceLit (x := quo1 x) (t := t4) rfl (by decide) ?_ fun t' s' X8 => X8.modDq fit2 fun t9 s9 X9 => ⟨_, X9, fun p hp => .inl hp, fun s10 X10 => wpAny_execs_nil (wpAny_execs_nil ?_)⟩))))
          · show _ + (_ + 1) * 6 ≤ _; omega
          · exact X10.retName rfl ⟨⟨t9, by rw [quo, h1, h2]; rfl⟩, X10.keep⟩
end
end Mine

namespace Mine

def valueOf : Stmt → Expr
  | .Assign _ v _ => v
  | .Return (some v) _ => v
  | _ => .Constant .none 0 ⟨0, 0, 0, 0⟩
def LInt (h : Heap) (a : Addr) (ns : List Int) : Prop := ∃ vs k, h.get? a = some (lst (vs : List Value).toArray k) ∧ IntsAre vs ns
def LStr (h : Heap) (a : Addr) (xs : List Str) : Prop := ∃ vs k, h.get? a = some (lst (vs : List Value).toArray k) ∧ StrsAre vs xs
theorem LInt.keeps {s s' : Shared} {a : Addr} {ns : List Int} (x : LInt s.heap a ns) (k : Keeps s s') : LInt s'.heap a ns := let ⟨vs, n, h, i⟩ := x; ⟨vs, n, keeps_get k h, i⟩
theorem LStr.keeps {s s' : Shared} {a : Addr} {ns : List Str} (x : LStr s.heap a ns) (k : Keeps s s') : LStr s'.heap a ns := let ⟨vs, n, h, i⟩ := x; ⟨vs, n, keeps_get k h, i⟩
theorem isList_lst {h : Heap} {a : Addr} {ys : Array Value} {k : Nat} (e : h.get? a = some (lst ys k)) : h.IsList a ys := ⟨_, e, rfl, k, rfl⟩
theorem ints_length : ∀ {vs : List Value} {ns : List Int}, IntsAre vs ns → vs.length = ns.length
  | _, _, .nil => rfl
  | _, _, .cons _ _ h => by simp [ints_length h]
theorem strs_length : ∀ {vs : List Value} {ns : List Str}, StrsAre vs ns → vs.length = ns.length
  | _, _, .nil => rfl
  | _, _, .cons _ _ h => by simp [strs_length h]
theorem strs_at : ∀ {vs : List Value} {xs : List Str}, StrsAre vs xs → ∀ (i : Nat) (v : Value), vs[i]? = some v → ∃ x t, v = .str x t ∧ xs[i]? = some x
  | _, _, .nil, i, v, h => by simp at h
  | _, _, .cons n t hr, 0, v, h => by simp at h; exact ⟨n, t, h.symm, rfl⟩
  | _, _, .cons n t hr, i + 1, v, h => by simpa using strs_at hr i v (by simpa using h)
theorem ints_at : ∀ {vs : List Value} {xs : List Int}, IntsAre vs xs → ∀ (i : Nat) (x : Int), xs[i]? = some x → ∃ t, vs[i]? = some (.int x t)
  | _, _, .nil, i, v, h => by simp at h
  | _, _, .cons n t hr, 0, v, h => by simp at h; exact ⟨t, by simp [h]⟩
  | _, _, .cons n t hr, i + 1, v, h => by simpa using ints_at hr i v (by simpa using h)

/-- what is made of each is told of the source -/
theorem ints_of_paired {P : Nat → Value → Prop} {F : Value → Value → Prop} {n : Nat} (f : Nat → Int) {vs ys : List Value} (hn : vs.length = n) (hP : ∀ (j : Nat) v, vs[j]? = some v → P j v) (hF : Paired F vs ys)
    (h : ∀ i v y, P i v → F v y → ∃ t, y = .int (f i) t) : IntsAre ys ((List.range n).map f) := by
  subst hn
  suffices H : ∀ (k : Nat) (f : Nat → Int) (vs ys : List Value), (∀ j v, vs[j]? = some v → ∀ y, F v y → ∃ t, y = .int (f j) t) → Paired F vs ys → IntsAre ys ((List.range vs.length).map f) from
    H 0 f vs ys (fun j v hv y hy => h j v y (hP j v hv) hy) hF
  intro _ f vs ys hv hp
  induction hp generalizing f with
  | nil => exact .nil
  | @cons a b l₁ l₂ h1 _ ih =>
    obtain ⟨t, rfl⟩ := hv 0 a rfl b h1
    rw [List.length_cons, List.range_succ_eq_map, List.map_cons, List.map_map]
    exact .cons _ _ (ih (fun j => f (j + 1)) fun j v hj y hy => hv (j + 1) v (by simpa using hj) y hy)
theorem ints_of_strs {F : Value → Value → Prop} (f : Str → Int) : ∀ {vs ys : List Value} {xs : List Str}, StrsAre vs xs → Paired F vs ys → (∀ x t y, F (.str x t) y → ∃ t, y = .int (f x) t) → IntsAre ys (xs.map f)
  | _, _, _, .nil, .nil, _ => .nil
  | _, _, _, .cons x t hr, .cons h1 hp, h => by
    obtain ⟨t', rfl⟩ := h x t _ h1
    exact .cons _ _ (ints_of_strs f hr hp h)
theorem strs_of_strs {F : Value → Value → Prop} (f : Str → Str) : ∀ {vs ys : List Value} {xs : List Str}, StrsAre vs xs → Paired F vs ys → (∀ x t y, F (.str x t) y → ∃ t, y = .str (f x) t) → StrsAre ys (xs.map f)
  | _, _, _, .nil, .nil, _ => .nil
  | _, _, _, .cons x t hr, .cons h1 hp, h => by
    obtain ⟨t', rfl⟩ := h x t _ h1
    exact .cons _ _ (strs_of_strs f hr hp h)
theorem filter_true (vs : List Value) : vs.filter (fun _ => true) = vs := List.filter_eq_self.mpr fun _ _ => rfl

section
variable {prog : Program} {w : World} {A : Around} {E : Value → Shared → Prop} {s₀ s s₁ s' : Shared} {R : Heap} {env : Env} {m cm : Str → Option Value} {N N₁ : List (Addr × Obj)}

theorem tests_nil {cenv : Env} {Q : Bool → Shared → Prop} (h : Q true s) : wpAny (model prog w) A (tests [] cenv) Q E s := by
  unfold tests; rw [List.forIn_nil]; exact wpAny_pure h
theorem tests_one {c : Expr} {cenv : Env} {Q : Bool → Shared → Prop} (h : wpAny (model prog w) A (isTrue c cenv (eval c cenv)) Q E s) : wpAny (model prog w) A (tests [c] cenv) Q E s := by
  unfold tests; rw [List.forIn_cons, if_pos rfl]
  refine wpAny_bind (wpAny_bind (wpAny_mono h (fun v s' hq => wpAny_pure ?_) fun _ _ e => e))
  dsimp only; rw [List.forIn_nil]; exact wpAny_pure hq

/-- range(e) -/
theorem Ex.rangeTo {e : Expr} {p pos : Pos} {n : Nat} {Q : Value → Shared → Prop} (X : Ex s₀ env m cm N s) (htr : backTo pos (starEach [e] env) = [(false, eval e env)])
    (h : wpAny (model prog w) A (eval e env) (fun v s₁ => ∃ t, v = .int (n : Int) t ∧ Ex s₀ env m cm N s₁ ∧ ∀ r t u v' s₂, IsRange s₂.heap r 0 n 1 t u v' → Ex s₀ env m cm N s₂ → Keeps s₁ s₂ → Q (.ref r) s₂) E s)
    (hk : env.scope.kind = .function := by rfl) (hl : env.kindOf "range" = some .globalImplicit := by rfl) (hgl : env.globals = mainGlobals := by rfl) (hb : env.builtins = builtinsNs := by rfl) :
    wpAny (model prog w) A (eval (.Call (.Name "range" p) [e] [] pos) env) Q E s := by
  refine X.callType (T := "range") htr (by decide) (wpAny_mono h (fun v s₁ h₁ => ?_) fun _ _ e => e) hk hl hgl hb
  obtain ⟨t, rfl, X₁, hq⟩ := h₁
  refine call_range_1 ?_
  have kk : Keeps s₁ { s₁ with heap := s₁.heap.push { cls := .type "range", data := .fields #[.int 0 s₁.toks, .int n t, .int 1 (s₁.toks + 1)] }, toks := s₁.toks + 1 + 1 } := keeps_push _ _ _
  exact hq _ _ _ _ _ (IsRange.new _ _ _ _ _ _ _) (X₁.to kk (Nat.succ_pos _)) kk

/-- the end of a comprehension that is a value -/
theorem fin_eval {D C : Addr} {o : Obj} {P : Value → Shared → Prop} (x₁ : Ex s env m cm N₁ s₁) (hC : s₁.heap.get? C = none) (hDC : D ≠ C) (k : Keeps s₁ s') (x : Ex s env m cm ((D, o) :: N₁) s') (hn : ∃ mC, s'.heap.Ns C mC)
    (hP : ∀ s'', s''.heap.get? D = some o → Keeps s s'' → P (.ref D) s'') : compPost (model prog w) A E none (fun v s' => P v s' ∧ Keeps s s') (.ref D) C (.ok .next) s' :=
  post_eval x₁ hC hDC k x hn fun _ _ X => ⟨hP _ (X.news _ List.mem_cons_self) X.keep, X.keep⟩

theorem same_vals {ts vs : List Value} (hl : vs.length = ts.length) (h : ∀ (j : Nat) v, vs[j]? = some v → ts[j]? = some v) : vs = ts := by
  refine List.ext_getElem? fun j => ?_
  cases e : vs[j]? with
  | some v => exact (h j v e).symm
  | none => exact (List.getElem?_eq_none (by rw [← hl]; exact List.getElem?_eq_none_iff.mp e)).symm

/-- what a list comprehension gives: a new list -/
def Made (s : Shared) (R : List Value → Prop) (v : Value) (s' : Shared) : Prop := ∃ D ys k, v = .ref D ∧ s.heap.get? D = none ∧ s'.heap.get? D = some (lst (ys : List Value).toArray k) ∧ R ys

theorem fresh_of {b : Addr} (k : Keeps s s₁) (h : s₁.heap.get? b = none) : s.heap.get? b = none := by
  cases e : s.heap.get? b with
  | none => rfl
  | some o => rw [keeps_get k e] at h; cases h

theorem map_local {elt iter : Expr} {x : Str} {px : Pos} {ifs : List Expr} {scope : Scope} {cl : List (Str × Addr)} {pos : Pos}
    (_X : Ex s env m cm N s) (p : Value → Bool) (F : Value → Value → Prop) (R : List Value → Prop)
    (hclos : closureFor scope env = pure cl) (hcell : ∀ y ∈ scope.names, y.2 ≠ .cell) (hkind : scope.kind = .function)
    (hnames : ∀ y ∈ scope.names, y.2 = .local → scope.names.lookup y.1 = some .local) (hsub : ∀ n c, cl.lookup n = some c → env.cells.lookup n = some c) (hx : scope.names.lookup x = some .local)
    (h : wpAny (model prog w) A (eval iter env) (fun xv s₁ => ∃ n P N₁, Src prog w A s₁ xv n P ∧ n ≤ sizeLine ∧ Ex s env m cm N₁ s₁ ∧
      (∀ C i v s₂ mC, i < n → P i v → mC x = some v → Ex s₂ (compEnvC scope cl C env) mC cm N₁ s₂ →
        wpAny (model prog w) A (tests ifs (compEnvC scope cl C env)) (fun ok s₃ => ok = p v ∧ Keeps s₂ s₃) (fun _ _ => False) s₂) ∧
      (∀ C i v s₂ mC, i < n → P i v → p v = true → mC x = some v → Ex s₂ (compEnvC scope cl C env) mC cm N₁ s₂ →
        wpAny (model prog w) A (eval elt (compEnvC scope cl C env)) (fun y s₃ => F v y ∧ Keeps s₂ s₃) (fun _ _ => False) s₂) ∧
      (∀ (vs ys : List Value), vs.length = n → (∀ j v, vs[j]? = some v → P j v) → Paired F (vs.filter p) ys → R ys)) (fun _ _ => False) s)
    (hs : ∀ x, foldedSetIterable iter env x = pure x := by intro _; rfl) :
    wpAny (model prog w) A (eval (.ListComp elt [⟨.Name x px, iter, ifs, 0⟩] scope pos) env) (fun v s' => Made s R v s' ∧ Keeps s s') (fun _ _ => False) s := by
  refine eval_of_comp (comp_local (s₀ := s) (m := m) (cm := cm) p F hclos hcell hkind hnames hsub hx (wpAny_mono h (fun xv s₁ h₁ => ?_) fun _ _ e => e) hs)
  obtain ⟨n, P, N₁, hsrc, hsz, X₁, ht, he, hR⟩ := h₁
  refine ⟨n, P, N₁, hsrc, hsz, X₁, ht, he, fun D C ys k' s' vs h1 h2 h3 h4 h5 h6 h7 h8 h9 => ?_⟩
  exact fin_eval X₁ h2 h3 h4 h5 h6 fun s'' hg _ => ⟨D, ys.toList, k', rfl, fresh_of X₁.keep h1, by simpa using hg, hR vs _ h7 h8 h9⟩

theorem map_cell {elt iter : Expr} {x : Str} {px : Pos} {ifs : List Expr} {scope : Scope} {cl : List (Str × Addr)} {pos : Pos}
    (_X : Ex s env m cm N s) (p : Value → Bool) (F : Value → Value → Prop) (R : List Value → Prop)
    (hclos : closureFor scope env = pure cl) (hown : ∀ C, ownOf scope C = [(x, C + 1)]) (hkind : scope.kind = .function)
    (hnames : ∀ y ∈ scope.names, y.2 = .local → scope.names.lookup y.1 = some .local) (hsub : ∀ n c, cl.lookup n = some c → env.cells.lookup n = some c) (hx : (relabel scope env).names.lookup x = some .cell)
    (h : wpAny (model prog w) A (eval iter env) (fun xv s₁ => ∃ n P N₁, Src prog w A s₁ xv n P ∧ n ≤ sizeLine ∧ Ex s env m cm N₁ s₁ ∧
      (∀ C i v s₂ mC, i < n → P i v → Ex s₂ (compEnvC scope ((x, C + 1) :: cl) C env) mC (upd cm x v) N₁ s₂ →
        wpAny (model prog w) A (tests ifs (compEnvC scope ((x, C + 1) :: cl) C env)) (fun ok s₃ => ok = p v ∧ Keeps s₂ s₃) (fun _ _ => False) s₂) ∧
      (∀ C i v s₂ mC, i < n → P i v → p v = true → Ex s₂ (compEnvC scope ((x, C + 1) :: cl) C env) mC (upd cm x v) N₁ s₂ →
        wpAny (model prog w) A (eval elt (compEnvC scope ((x, C + 1) :: cl) C env)) (fun y s₃ => F v y ∧ Keeps s₂ s₃) (fun _ _ => False) s₂) ∧
      (∀ (vs ys : List Value), vs.length = n → (∀ j v, vs[j]? = some v → P j v) → Paired F (vs.filter p) ys → R ys)) (fun _ _ => False) s)
    (hs : ∀ x, foldedSetIterable iter env x = pure x := by intro _; rfl) :
    wpAny (model prog w) A (eval (.ListComp elt [⟨.Name x px, iter, ifs, 0⟩] scope pos) env) (fun v s' => Made s R v s' ∧ Keeps s s') (fun _ _ => False) s := by
  refine eval_of_comp (comp_cell (s₀ := s) (m := m) (cm := cm) p F hclos hown hkind hnames hsub hx (wpAny_mono h (fun xv s₁ h₁ => ?_) fun _ _ e => e) hs)
  obtain ⟨n, P, N₁, hsrc, hsz, X₁, ht, he, hR⟩ := h₁
  refine ⟨n, P, N₁, hsrc, hsz, X₁, ht, he, fun D C ys k' s' vs h1 h2 h3 h4 h5 h6 h7 h8 h9 => ?_⟩
  exact fin_eval X₁ h2 h3 h4 h5 h6 fun s'' hg _ => ⟨D, ys.toList, k', rfl, fresh_of X₁.keep h1, by simpa using hg, hR vs _ h7 h8 h9⟩

/-- x = e, e giving a new list -/
theorem In.madeC {x : Str} {c : Addr} {p' pos : Pos} {value : Expr} {P : List Value → Prop} {Q : Flow → Shared → Prop} (X : In s₀ R env m cm N s)
    (h : wpAny (model prog w) A (eval value env) (fun v s' => Made s P v s' ∧ Keeps s s') (fun _ _ => False) s)
    (hq : ∀ D ys k s'', s₀.heap.get? D = none → P ys → In s₀ R env m (upd cm x (.ref D)) ((D, lst ys.toArray k) :: N) s'' → Q .next s'')
    (hk : env.scope.kind = .function := by rfl) (hl : env.kindOf x = some .cell := by rfl) (hc : env.cells.lookup x = some c := by rfl) (hsw : swapsWith value (some (.Name x p')) pos.line env = pure false := by rfl) :
    wpAny (model prog w) A (exec (.Assign [.Name x p'] value pos) env) Q E s := by
  refine In.assignC X (X.ex.step h fun v s₂ hv k X₂ => ?_) hk hl hc hsw
  obtain ⟨D, ys, n, rfl, hD, hg, hR⟩ := hv
  refine ⟨_, X₂.add hg, fun p hp => ?_, fun s₃ X₃ => hq D ys n s₃ (fresh_of X.keep hD) hR X₃⟩
  rcases List.mem_cons.mp hp with rfl | hp
  · exact .inr hD
  · exact .inl hp
theorem In.madeL {x : Str} {p' pos : Pos} {value : Expr} {P : List Value → Prop} {Q : Flow → Shared → Prop} (X : In s₀ R env m cm N s)
    (h : wpAny (model prog w) A (eval value env) (fun v s' => Made s P v s' ∧ Keeps s s') (fun _ _ => False) s)
    (hq : ∀ D ys k s'', s₀.heap.get? D = none → P ys → In s₀ R env (upd m x (.ref D)) cm ((D, lst ys.toArray k) :: N) s'' → Q .next s'')
    (hk : env.scope.kind = .function := by rfl) (hl : env.kindOf x = some .local := by rfl) (hsw : swapsWith value (some (.Name x p')) pos.line env = pure false := by rfl) :
    wpAny (model prog w) A (exec (.Assign [.Name x p'] value pos) env) Q E s := by
  refine In.assignL X (X.ex.step h fun v s₂ hv k X₂ => ?_) hk hl hsw
  obtain ⟨D, ys, n, rfl, hD, hg, hR⟩ := hv
  refine ⟨_, X₂.add hg, fun p hp => ?_, fun s₃ X₃ => hq D ys n s₃ (fresh_of X.keep hD) hR X₃⟩
  rcases List.mem_cons.mp hp with rfl | hp
  · exact .inr hD
  · exact .inl hp
theorem Made.ints {ns : List Int} {v : Value} (h : Made s (fun ys => IntsAre ys ns) v s') : ∃ D, v = .ref D ∧ LInt s'.heap D ns := let ⟨D, ys, k, e, _, hg, hi⟩ := h; ⟨D, e, ys, k, hg, hi⟩

/-- longs.count(k) -/
theorem count_walk {L : Addr} {ns : List Int} {k : Int} {t : Tok} {p1 p2 p3 p4 : Pos} {a b : Str} {c : Addr} (X : Ex s₀ env m cm N s) (hL : LInt s.heap L ns) (ha : cm a = some (.ref L)) (hb : m b = some (.int k t))
    (hk : env.scope.kind = .function) (hla : env.kindOf a = some .cell) (hca : env.cells.lookup a = some c) (hda : (a == ("__debug__" : Str)) = false) (hlb : env.kindOf b = some .local) (hdb : (b == ("__debug__" : Str)) = false)
    (hbase : attributeBase (.Name a p1) "count" env (eval (.Name a p1) env) = eval (.Name a p1) env) (hline : (p2.endLine == p4.line) = true) :
    wpAny (model prog w) A (eval (.Call (.Attribute (.Name a p1) "count" p2) [.Name b p3] [] p4) env) (fun v s' => (∃ t', v = .int (ns.count k : Nat) t') ∧ Keeps s s') (fun _ _ => False) s := by
  refine wpAny_Call_method (T := "list") (id := "list.count") hbase rfl hline PySem.F.plainAttrs_list PySem.F.slot_list_count PySem.F.type_list_count (X.cell_ ha ?_ hk hla hca hda)
  obtain ⟨vs, n, hg, hi⟩ := hL
  refine ⟨⟨_, hg, rfl⟩, fun a e => by cases e; exact ⟨_, hg, rfl⟩, ?_⟩
  refine Calls.callWith_builtin rfl (Calls.evalArgs_plain (spliced1 (X.local_ hb ?_ hk hlb hdb)))
  exact count_list_ints (isList_lst hg) hi ⟨⟨_, rfl⟩, keeps_tok _ _⟩

def cnt (ns : List Int) (n : Nat) : List Int := (List.range n).map fun (k : Nat) => ((ns.count (k : Int) : Nat) : Int)

def longsScope : Scope := { kind := .function, names := [(Str.ofString ".0", .local), (Str.ofString "k", .local), (Str.ofString "longs", .free)], isGenerator := false, isCoroutine := false, more := [] }

/-- [longs.count(k) for k in range(e)] -/
theorem counts_comp {iter : Expr} {p1 p2 p3 p4 px pos : Pos} {L : Addr} {ls : List Value} {lk : Nat} {ns : List Int} {n : Nat} {c : Addr} (hh : A.handled = none) (X : Ex s env m cm N s) (hg0 : (L, lst ls.toArray lk) ∈ N) (hli : IntsAre ls ns) (hn : n ≤ 1000)
    (hclos : closureFor longsScope env = pure [(Str.ofString "longs", c)]) (hc : env.cells.lookup (Str.ofString "longs") = some c) (ha : cm "longs" = some (.ref L)) (hrl : relabel longsScope env = { longsScope with names := [(Str.ofString ".0", .local), (Str.ofString "k", .local), (Str.ofString "longs", .cell)] })
    (hiter : ∀ Q : Value → Shared → Prop, (∀ r t u v' s₁, IsRange s₁.heap r 0 (n : Int) 1 t u v' → Ex s env m cm N s₁ → Q (.ref r) s₁) → wpAny (model prog w) A (eval iter env) Q (fun _ _ => False) s)
    (hline : (p2.endLine == p4.line) = true) (hs : ∀ x, foldedSetIterable iter env x = pure x := by intro _; rfl) :
    wpAny (model prog w) A (eval (.ListComp (.Call (.Attribute (.Name "longs" p1) "count" p2) [.Name "k" p3] [] p4) [⟨.Name "k" px, iter, [], 0⟩] longsScope pos) env)
      (fun v s' => Made s (fun ys => IntsAre ys (cnt ns n)) v s' ∧ Keeps s s') (fun _ _ => False) s := by
  refine map_local X (fun _ => true) (fun v y => ∀ i t, v = .int i t → ∃ t', y = .int (ns.count i : Nat) t') _ hclos (by decide) rfl (by decide) ?_ rfl ?_ hs
  · intro n' c' h
    rw [List.lookup_cons] at h
    split at h
    · rename_i he
      have : n' = Str.ofString "longs" := by simpa using he
      cases h; rw [this]; exact hc
    · cases h
  refine hiter _ fun r t u v' s₁ hr X₁ => ?_
  refine ⟨n, _, _, Src.range hh hr (by omega), by rw [sizeLine_eq]; omega, X₁, ?_, ?_, ?_⟩
  · intro C i v s₂ mC hi hP hx X₂
    exact tests_nil ⟨rfl, keeps_refl _⟩
  · intro C i v s₂ mC hi hP _ hx X₂
    obtain ⟨t', rfl⟩ := hP
    have hL2 : LInt s₂.heap L ns := ⟨ls, lk, X₂.news _ hg0, hli⟩
    refine wpAny_mono (count_walk (a := "longs") (b := "k") X₂ hL2 ha hx rfl ?_ (c := c) rfl (by decide) ?_ (by decide) ?_ hline) (fun v s' h => ⟨fun i t e => ?_, h.2⟩) fun _ _ e => e
    · show (relabel longsScope env).names.lookup (Str.ofString "longs") = _; rw [hrl]; rfl
    · show (relabel longsScope env).names.lookup (Str.ofString "k") = _; rw [hrl]; rfl
    · rfl
    · cases e; exact h.1
  · intro vs ys h7 h8 h9
    rw [filter_true] at h9
    exact ints_of_paired _ h7 h8 h9 fun i v y hP hF => by obtain ⟨t, rfl⟩ := hP; exact hF _ _ rfl

theorem counted_call {T : Addr} {xs : List Str} {n : Nat} {t : Tok} (r : Room 4 A) (hB : Base s.heap) (ht : 0 < s.toks) (hT : LStr s.heap T xs) (hx : ∀ x ∈ xs, x.length < 1000000) (hxl : xs.length ≤ 1000) (hn : n ≤ 900) :
    wpAny (model prog w) A (call (.ref 59) [.ref T, .int (n : Int) t]) (fun v s' => (∃ D, v = .ref D ∧ LInt s'.heap D (cnt (xs.map fun x => (x.length : Int)) (n + 1))) ∧ Keeps s s') (fun _ _ => False) s := by
  obtain ⟨ts, tk, hg, hts⟩ := hT
  refine call_def (i := 8) (N := [(T, lst ts.toArray tk)]) (binds := [(Str.ofString "texts", .ref T), (Str.ofString "most", .int n t)]) hB ht (fun p hp => by rw [List.mem_singleton.mp hp]; exact hg) hB.f59 r.depth (fun nm q doc pm cd ct an => BindsTo.of_eq rfl) ?_ rfl rfl rfl ?_
  · intro L p hp
    rcases List.mem_cons.mp hp with rfl | hp
    · exact .inl rfl
    · rw [List.mem_singleton.mp hp]; exact .inl rfl
  · intro q cd s₁ X
    refine wpAny_execs_cons (X.madeC (P := fun ys => IntsAre ys (xs.map fun x => (x.length : Int))) (map_local X.ex (fun _ => true) (fun v y => ∀ x t, v = .str x t → ∃ t', y = .int (x.length : Nat) t') _ rfl (by decide) rfl (by decide) (fun _ _ h => by cases h) rfl ?_) ?_)
    · refine X.ex.local_ rfl ⟨_, _, _, Src.list (r.deeper _).hh (isList_lst (X.news _ List.mem_cons_self)), ?_, X.ex, ?_, ?_, ?_⟩
      · rw [strs_length hts, sizeLine_eq]; omega
      · intro C i v s₂ mC hi hP hx X₂
        exact tests_nil ⟨rfl, keeps_refl _⟩
      · intro C i v s₂ mC hi hP _ hm X₂
        obtain ⟨x, t', rfl, hxi⟩ := strs_at hts i v hP
        have hlx := hx x (List.mem_of_getElem? hxi)
        refine Ex.callBuilt X₂ rfl rfl (id := "len") (by decide) (spliced1 (X₂.local_ hm ?_))
        exact PyProof.Rows.len_str (by omega) ⟨fun x' t'' e => by cases e; exact ⟨_, rfl⟩, keeps_tok _ _⟩
      · intro vs ys h7 h8 h9
        rw [filter_true] at h9
        have hvs := same_vals h7 h8
        subst hvs
        exact ints_of_strs _ hts h9 fun x t y hy => hy x t rfl
    · intro D ys k s₃ _ hi X₃
      refine wpAny_execs_cons (wpAny_Return_some ?_)
      refine X₃.ex.step (counts_comp (n := n + 1) (c := s.heap.objs.size + 1) (r.deeper _).hh X₃.ex List.mem_cons_self hi (by omega) rfl rfl rfl rfl ?_ rfl) fun v s₄ hv k₄ X₄ => ⟨_, rfl, hv.ints, keeps_trans X₃.keep k₄⟩
      intro Q hQ
      refine X₃.ex.rangeTo rfl (wpAny_BinOp (X₃.ex.local_ rfl (wpAny_Constant_int (add_int ⟨_, rfl, X₃.ex.tk1.tk1, fun r t u v' s₁ hr X₄ _ => hQ _ _ _ _ _ hr X₄⟩))))
end
end Mine

namespace Mine

/-- the entries of a table of widths -/
def IntE (es : List DictEntry) (kvs : List (Str × Int)) : Prop := Paired (fun e p => ∃ u v, e.key = .str p.1 u ∧ e.val = .int p.2 v) es kvs
def wOf : List (Str × Int) → Str → Int
  | [], _ => 1
  | p :: r, x => if p.1 = x then p.2 else wOf r x
theorem wOf_at : ∀ {es : List DictEntry} {kvs : List (Str × Int)}, IntE es kvs → ∀ (x : Str) (t : Tok), ∃ t', (valueAt (es.map fun e => (keyOf e, e.val)) x).getD (.int 1 t) = .int (wOf kvs x) t'
  | _, _, .nil, x, t => ⟨t, rfl⟩
  | e :: es, p :: kvs, .cons h1 h2, x, t => by
    obtain ⟨u, v, hk, hv⟩ := h1
    have hkey : keyOf e = p.1 := by unfold keyOf; rw [hk]
    unfold valueAt wOf
    rw [List.map_cons, List.find?_cons]
    by_cases hx : p.1 = x
    · rw [if_pos hx]
      simp only [hkey, hx, decide_true, Option.map_some, Option.getD_some]
      exact ⟨v, hv⟩
    · rw [if_neg hx]
      simp only [hkey, hx, decide_false]
      exact wOf_at h2 x t
theorem strs_filter {p : Value → Bool} {q : Str → Bool} (h : ∀ x t, p (.str x t) = q x) : ∀ {vs : List Value} {xs : List Str}, StrsAre vs xs → StrsAre (vs.filter p) (xs.filter q)
  | _, _, .nil => .nil
  | _, _, .cons x t hr => by
    rw [List.filter_cons, List.filter_cons, h x t]
    cases q x with
    | true => exact .cons x t (strs_filter h hr)
    | false => exact strs_filter h hr

def rowOf (kvs : List (Str × Int)) (wo : Str) (xs : List Str) : List Int := cnt ((xs.filter fun x => !hasSub wo x).map (wOf kvs)) 7

inductive AllAt (cells : List (Str × Addr)) : List (Str × Addr) → Prop
  | nil : AllAt cells []
  | cons {n : Str} {c : Addr} {l : List (Str × Addr)} : cells.lookup n = some c → AllAt cells l → AllAt cells ((n, c) :: l)
theorem sub_of {cells cl : List (Str × Addr)} (h : AllAt cells cl) : ∀ n c, cl.lookup n = some c → cells.lookup n = some c := by
  intro n c e
  induction h with
  | nil => cases e
  | @cons n' c' l h1 h2 ih =>
    rw [List.lookup_cons] at e
    split at e
    · rename_i hb
      have : n = n' := by simpa using hb
      cases e; rw [this]; exact h1
    · exact ih e
section
variable {prog : Program} {w : World} {A : Around} {s : Shared}

theorem dictGet_ {A : Around} {E : Value → Shared → Prop} {s : Shared} {env : Env} {d : Addr} {kvs : List (Str × Value)} {o y z : Expr} {ap pos : Pos} {Q : Value → Shared → Prop} (hd : (d == sysModules) = false)
    (hbase : attributeBase o "get" env (eval o env) = eval o env) (hline : (ap.endLine == pos.line) = true)
    (htr : backTo pos (starEach [y, z] env) = [(false, eval y env), (false, eval z env)])
    (h : wpAny (model prog w) A (eval o env) (fun ov s₁ => ov = .ref d ∧ s₁.heap.DictOf (strKind prog w) d kvs ∧ wpAny (model prog w) A (eval y env) (fun key s₁ => wpAny (model prog w) A (eval z env) (fun dflt s₂ =>
      ∃ k f, (strKind prog w).is k key = true ∧ s₂.heap.MapOf (strKind prog w) d f ∧ Q ((f k).getD dflt) { s₂ with toks := s₂.toks + 1 }) E s₁) E s₁) E s) :
    wpAny (model prog w) A (eval (.Call (.Attribute o "get" ap) [y, z] [] pos) env) Q E s := by
  refine wpAny_Call_method (T := "dict") (id := "dict.get") hbase (by rw [htr]; rfl) hline PySem.F.plainAttrs_dict PySem.F.slot_dict_get PySem.F.type_dict_get (wpAny_mono h (fun ov s₁ h₁ => ?_) fun _ _ e => e)
  obtain ⟨rfl, hD, h₁⟩ := h₁
  rw [htr]
  exact ⟨hD.typeIs, hD.mapOf.noDict, wpAny_dict_get2 (knd := strKind prog w) hd h₁⟩

theorem row_call {T d : Addr} {xs : List Str} {es : List DictEntry} {kvs : List (Str × Int)} {wo : Str} {t : Tok} (r : Room 4 A) (hB : Base s.heap) (ht : 0 < s.toks) (hT : LStr s.heap T xs) (hd : SD w s.heap d es) (hdS : (d == sysModules) = false) (he : IntE es kvs) (hxl : xs.length ≤ 1000) :
    wpAny (model prog w) A (call (.ref 44) [.ref T, .ref d, .str wo t]) (fun v s' => (∃ D, v = .ref D ∧ LInt s'.heap D (rowOf kvs wo xs)) ∧ Keeps s s') (fun _ _ => False) s := by
  obtain ⟨ts, tk, hg, hts⟩ := hT
  obtain ⟨ep, hget⟩ := hd.get
  refine call_def (i := 5) (N := [(T, lst ts.toArray tk), (d, { cls := .type "dict", data := .dict es.toArray ep })]) (binds := [(Str.ofString "alphabet", .ref T), (Str.ofString "widths", .ref d), (Str.ofString "without", .str wo t)]) hB ht ?_ hB.f44 r.depth (fun nm q doc pm cd ct an => BindsTo.of_eq rfl) ?_ rfl rfl rfl ?_
  · intro p hp
    rcases List.mem_cons.mp hp with rfl | hp
    · exact hg
    · rw [List.mem_singleton.mp hp]; exact hget
  · intro L p hp
    rcases List.mem_cons.mp hp with rfl | hp
    · exact .inl rfl
    · rcases List.mem_cons.mp hp with rfl | hp
      · exact .inr ⟨rfl, rfl⟩
      · rw [List.mem_singleton.mp hp]; exact .inr ⟨rfl, rfl⟩
  · intro q cd s₁ X
    refine wpAny_execs_cons (X.madeC (P := fun ys => IntsAre ys ((xs.filter fun x => !hasSub wo x).map (wOf kvs))) (map_local X.ex (fun v => match v with | .str x _ => !hasSub wo x | _ => true) (fun v y => ∀ x t, v = .str x t → ∃ t', y = .int (wOf kvs x) t') _ rfl (by decide) rfl (by decide) ?_ rfl ?_) ?_)
    · exact sub_of (.cons rfl (.cons rfl .nil))
    · refine X.ex.local_ rfl ⟨_, _, _, Src.list (r.deeper _).hh (isList_lst (X.news _ List.mem_cons_self)), ?_, X.ex, ?_, ?_, ?_⟩
      · rw [strs_length hts, sizeLine_eq]; omega
      · intro C i v s₂ mC hi hP hx X₂
        obtain ⟨x, t', rfl, hxi⟩ := strs_at hts i v hP
        exact tests_one (wpAny_isTrue_Compare1 (X₂.local_ hx (X₂.cell_ (v := .str wo t) rfl (P.notIn_str (wpAny_truthy_bool ⟨rfl, keeps_refl _⟩)))))
      · intro C i v s₂ mC hi hP _ hm X₂
        obtain ⟨x, t', rfl, hxi⟩ := strs_at hts i v hP
        have hS2 : SD w s₂.heap d es := ⟨⟨ep, X₂.news _ (List.mem_cons_of_mem _ List.mem_cons_self)⟩, hd.keys, hd.nodup⟩
        have hD := hS2.dictOf (prog := prog)
        refine dictGet_ hdS rfl rfl rfl (X₂.cell_ (v := .ref d) rfl ⟨rfl, hD, X₂.local_ hm (wpAny_Constant_int ?_)⟩)
        refine ⟨x, _, strKind_is prog w x t', hD.mapOf, fun x' t'' e => ?_, keeps_tok s₂ _⟩
        cases e
        exact wOf_at he x _
      · intro vs ys h7 h8 h9
        have hvs := same_vals h7 h8
        subst hvs
        exact ints_of_strs _ (strs_filter (q := fun x => !hasSub wo x) (fun x t => rfl) hts) h9 fun x t y hy => hy x t rfl
    · intro D ys k s₃ _ hi X₃
      refine wpAny_execs_cons (wpAny_Return_some ?_)
      refine X₃.ex.step (counts_comp (n := 7) (c := s.heap.objs.size + 1 + 1 + 1) (r.deeper _).hh X₃.ex List.mem_cons_self hi (by omega) rfl rfl rfl rfl ?_ rfl) fun v s₄ hv k₄ X₄ => ⟨_, rfl, hv.ints, keeps_trans X₃.keep k₄⟩
      intro Q hQ
      refine X₃.ex.rangeTo rfl (wpAny_Constant_int ⟨_, rfl, X₃.ex.tk1, fun r t u v' s₁ hr X₄ _ => hQ _ _ _ _ _ hr X₄⟩)
end
end Mine

namespace Mine

def iv (n : Nat) : List Int := (List.range n).map fun (i : Nat) => (i : Int)
theorem ints_iv {n : Nat} {vs : List Value} (hn : vs.length = n) (h : ∀ (j : Nat) v, vs[j]? = some v → ∃ t, v = .int (j : Int) t) : IntsAre vs (iv n) := by
  have hp : Paired (fun v y => v = y) vs vs := by
    clear h hn
    induction vs with
    | nil => exact .nil
    | cons a l ih => exact .cons rfl ih
  exact ints_of_paired (P := fun i v => ∃ t, v = .int (i : Int) t) (F := fun v y => v = y) (fun i => (i : Int)) hn h hp fun i v y hP hF => hF ▸ hP
theorem ints_map {p : Value → Bool} {q : Int → Bool} {F : Value → Value → Prop} (f : Int → Int) (hq : ∀ n t, p (.int n t) = q n) : ∀ {vs ys : List Value} {ns : List Int}, IntsAre vs ns → Paired F (vs.filter p) ys → (∀ n t y, n ∈ ns → q n = true → F (.int n t) y → ∃ t, y = .int (f n) t) → IntsAre ys ((ns.filter q).map f)
  | _, _, _, .nil, h, _ => by cases h; exact .nil
  | _, _, _, .cons n t hr, h, hf => by
    rw [List.filter_cons, hq] at h
    rw [List.filter_cons]
    cases e : q n with
    | false =>
      rw [e] at h
      exact ints_map f hq hr (by simpa using h) fun m t y hm => hf m t y (List.mem_cons_of_mem _ hm)
    | true =>
      rw [e, if_pos rfl] at h
      cases h with
      | cons h1 h2 =>
        obtain ⟨t', rfl⟩ := hf n t _ List.mem_cons_self e h1
        exact .cons _ _ (ints_map f hq hr h2 fun m t y hm => hf m t y (List.mem_cons_of_mem _ hm))
theorem filter_tt (ns : List Int) : ns.filter (fun _ => true) = ns := List.filter_eq_self.mpr fun _ _ => rfl

def term (row pw : List Int) (k i : Int) : Int := row.getD i.toNat 0 * pw.getD (k - i).toNat 0
def fits (pw : List Int) (k i : Int) : Bool := decide (0 ≤ k - i) && decide (k - i < (pw.length : Int))
def pstep (row pw : List Int) : List Int := (iv (pw.length + 6)).map fun k => (((iv 7).filter (fits pw k)).map (term row pw k)).sum
def powOf (row : List Int) : Nat → List Int
  | 0 => [1]
  | n + 1 => pstep row (powOf row n)
theorem pstep_length (row pw : List Int) : (pstep row pw).length = pw.length + 6 := by simp [pstep, iv]
theorem powOf_length (row : List Int) : ∀ n, (powOf row n).length = 6 * n + 1
  | 0 => rfl
  | n + 1 => by rw [powOf, pstep_length, powOf_length row n]; omega

section
variable {prog : Program} {w : World} {A : Around} {E : Value → Shared → Prop} {s₀ s s₁ s' : Shared} {R : Heap} {env : Env} {m cm : Str → Option Value} {N N₁ : List (Addr × Obj)}

theorem sum_keeps {l : Addr} {vs : List Value} {ns : List Int} (hh : A.handled = none) (hl : s.heap.IsList l vs.toArray) (hi : IntsAre vs ns) :
    wpAny (model prog w) A (call (.builtin "sum") [.ref l]) (fun v s' => (∃ t, v = .int ns.sum t) ∧ Keeps s s') (fun _ _ => False) s := by
  have hall := hi.allInts
  have hn := hi.numsOf
  generalize hv : vs.toArray = items at hl hall
  obtain ⟨xs, rfl⟩ := hall.items
  refine sum_intListG hh hl fun h' tk t' hk => ⟨⟨t', ?_⟩, ⟨h', tk, rfl, hk⟩⟩
  rw [preSum_eq, List.take_of_length_le (by simp), ← nums_intItems, ← hv]
  show Value.int (numsOf vs).sum t' = _
  rw [hn]

/-- l[i], l a cell that holds a list of ints, i any expression that gives an int -/
theorem itemCell {a : Str} {c L : Addr} {ls : List Value} {lk : Nat} {ns : List Int} {p pos : Pos} {slice : Expr} {k : Int} {Q : Value → Shared → Prop} (X : Ex s₀ env m cm N s) (ha : cm a = some (.ref L)) (hg : (L, lst ls.toArray lk) ∈ N) (hli : IntsAre ls ns)
    (hk : env.scope.kind = .function) (hla : env.kindOf a = some .cell) (hca : env.cells.lookup a = some c) (hda : (a == ("__debug__" : Str)) = false)
    (h0 : 0 ≤ k) (hlt : k < (ns.length : Int)) (hlen : ns.length ≤ 1000)
    (h : wpAny (model prog w) A (eval slice env) (fun v s₁ => ∃ u, v = .int k u ∧ Ex s₀ env m cm N s₁ ∧ ∀ t, Q (.int (ns.getD k.toNat 0) t) s₁) E s)
    (hs : ∀ u, subscripted slice false (.ref L) (.int k u) = operate [.ref L, .int k u] (getItem (.ref L) (.int k u)) := by intro _; with_unfolding_all rfl) (hgo : ∀ r, letTemporaryGo (.Name a p) (.ref L) r = pure () := by intro _; with_unfolding_all rfl) :
    wpAny (model prog w) A (eval (.Subscript (.Name a p) slice pos) env) Q E s := by
  refine Subscript_ (X.cell_ ha (wpAny_mono h (fun v s₁ h₁ => ?_) fun _ _ e => e) hk hla hca hda)
  obtain ⟨u, rfl, X₁, hq⟩ := h₁
  have hkn : k.toNat < ns.length := by omega
  obtain ⟨t, ht⟩ := ints_at hli k.toNat (ns.getD k.toNat 0) (by simp [hkn])
  exact item_listL (isList_lst (X₁.news _ hg)) h0 (by omega) ht (hq t) (hs u) hgo
end
end Mine

namespace Mine

def forBody : Stmt → List Stmt
  | .For _ _ b _ _ => b
  | _ => []

section
variable {prog : Program} {w : World} {A : Around} {E : Value → Shared → Prop} {s : Shared}

theorem sumCall {env : Env} {m cm : Str → Option Value} {N : List (Addr × Obj)} {e : Expr} {p pos : Pos} {ns : List Int} (hh : A.handled = none) (X : Ex s env m cm N s) (htr : backTo pos (starEach [e] env) = [(false, eval e env)])
    (h : wpAny (model prog w) A (eval e env) (fun v s' => Made s (fun ys => IntsAre ys ns) v s' ∧ Keeps s s') (fun _ _ => False) s)
    (hk : env.scope.kind = .function := by rfl) (hl : env.kindOf "sum" = some .globalImplicit := by rfl) (hgl : env.globals = mainGlobals := by rfl) (hb : env.builtins = builtinsNs := by rfl) :
    wpAny (model prog w) A (eval (.Call (.Name "sum" p) [e] [] pos) env) (fun v s' => (∃ t, v = .int ns.sum t) ∧ Keeps s s') (fun _ _ => False) s := by
  refine Ex.callBuilt X htr rfl (id := "sum") (by decide) (spliced1 (wpAny_mono h (fun v s' h' => ?_) fun _ _ e => e)) hk hl hgl hb
  obtain ⟨⟨D, ys, k, rfl, _, hg, hi⟩, kk⟩ := h'
  exact wpAny_mono (sum_keeps hh (isList_lst hg) hi) (fun v s'' h'' => ⟨h''.1, keeps_trans kk h''.2⟩) fun _ _ e => e

theorem lenCell {s₀ : Shared} {env : Env} {m cm : Str → Option Value} {N : List (Addr × Obj)} {a : Str} {c D : Addr} {ls : List Value} {lk : Nat} {p p' pos : Pos} {Q : Value → Shared → Prop} (X : Ex s₀ env m cm N s) (ha : cm a = some (.ref D)) (hg : (D, lst ls.toArray lk) ∈ N) (hlen : ls.length ≤ 1000000)
    (htr : backTo pos (starEach [.Name a p'] env) = [(false, eval (.Name a p') env)]) (hla : env.kindOf a = some .cell) (hca : env.cells.lookup a = some c) (hda : (a == ("__debug__" : Str)) = false)
    (hq : Q (.int (ls.length : Int) (s.toks + 1)) { s with toks := s.toks + 1 + 1 })
    (hk : env.scope.kind = .function := by rfl) (hl : env.kindOf "len" = some .globalImplicit := by rfl) (hgl : env.globals = mainGlobals := by rfl) (hb : env.builtins = builtinsNs := by rfl) :
    wpAny (model prog w) A (eval (.Call (.Name "len" p) [.Name a p'] [] pos) env) Q E s := by
  refine Ex.callBuilt X htr rfl (id := "len") (by decide) (spliced1 (X.cell_ ha ?_ hk hla hca hda)) hk hl hgl hb
  refine PyProof.Rows.len_list (isList_lst (X.news _ hg)) (by simp; omega) ?_
  simpa using hq

theorem step_comp {q : Str} {L : Addr} {cd : Value} {m cm : Str → Option Value} {N : List (Addr × Obj)} {T D : Addr} {rs ps : List Value} {rk pk : Nat} {row pw : List Int} (hh : A.handled = none) (X : Ex s (envOf' 6 q L 49 cd) m cm N s)
    (hrow : cm "row" = some (.ref T)) (hT : (T, lst rs.toArray rk) ∈ N) (hrs : IntsAre rs row) (hr7 : row.length = 7) (hrb : ∀ x ∈ row, Builtin.Int.intBits x ≤ 64)
    (hpow : cm "power" = some (.ref D)) (hD : (D, lst ps.toArray pk) ∈ N) (hps : IntsAre ps pw) (hp9 : pw.length ≤ 900) :
    wpAny (model prog w) A (eval (valueOf (nth 0 (forBody (nth 1 (bodyOf (theDef 6)))))) (envOf' 6 q L 49 cd)) (fun v s' => Made s (fun ys => IntsAre ys (pstep row pw)) v s' ∧ Keeps s s') (fun _ _ => False) s := by
  have hpl : ps.length = pw.length := ints_length hps
  refine map_cell (x := "k") X (fun _ => true) (fun v y => ∀ k t, v = .int k t → ∃ t', y = .int (((iv 7).filter (fits pw k)).map (term row pw k)).sum t') _ rfl (fun C => rfl) rfl (by decide) (sub_of (.cons rfl (.cons rfl .nil))) rfl ?_
  refine X.rangeTo (n := pw.length + 6) rfl (wpAny_BinOp (lenCell X hpow hD (by omega) rfl rfl rfl (by decide) (wpAny_Constant_int (add_int ⟨_, by rw [hpl]; rfl, (((X.tk1).tk1).tk1).tk1, fun r t u v' s₁ hr X₁ _ => ?_⟩))))
  refine ⟨_, _, _, Src.range hh hr (by omega), by rw [sizeLine_eq]; omega, X₁, ?_, ?_, ?_⟩
  · intro C i v s₂ mC hi hP X₂
    exact tests_nil ⟨rfl, keeps_refl _⟩
  · intro C i v s₂ mC hi hP _ X₂
    obtain ⟨t', rfl⟩ := hP
    refine wpAny_mono (sumCall (ns := (((iv 7).filter (fits pw i)).map (term row pw i))) hh X₂ rfl ?_) (fun v s' h => ⟨fun k t e => ?_, h.2⟩) fun _ _ e => e
    · refine map_local X₂ (fun v => match v with | .int j _ => fits pw i j | _ => true) (fun v y => ∀ j t, v = .int j t → 0 ≤ j → j < 7 → ∃ t', y = .int (term row pw i j) t') _ rfl (by decide) rfl (by decide) (sub_of (.cons rfl (.cons rfl (.cons rfl .nil)))) rfl ?_
      refine X₂.rangeTo (n := 7) rfl (wpAny_Constant_int ⟨_, rfl, X₂.tk1, fun r t u v' s₃ hr X₃ _ => ?_⟩)
      refine ⟨_, _, _, Src.range hh hr (by omega), by rw [sizeLine_eq]; omega, X₃, ?_, ?_, ?_⟩
      · intro C' j v s₄ mC' hj hP hm X₄
        obtain ⟨tj, rfl⟩ := hP
        refine tests_one (isTrue_chain (wpAny_Constant_int (test_link (wpAny_BinOp (X₄.tk1.cell_ (v := .int i t') rfl (X₄.tk1.local_ hm (sub_int (PyProof.Rows.le_int (wpAny_truthy_bool ?_)))))))))
        by_cases h0 : (0 : Int) ≤ (i : Int) - (j : Int)
        · rw [if_pos (by simpa using h0)]
          refine test_last (lenCell (X₄.tk1.tk1) hpow hD (by omega) rfl rfl rfl (by decide) (PyProof.Rows.lt_int (wpAny_truthy_bool ⟨?_, keeps_tok s₄ _⟩)))
          show _ = fits pw i j
          unfold fits; rw [decide_eq_true h0, hpl, Bool.true_and]
        · rw [if_neg (by simpa using h0)]
          exact ⟨by show _ = fits pw i j; unfold fits; rw [decide_eq_false h0, Bool.false_and], keeps_tok s₄ _⟩
      · intro C' j v s₄ mC' hj hP hp hm X₄
        obtain ⟨tj, rfl⟩ := hP
        have hf : fits pw i j = true := hp
        simp only [fits, Bool.and_eq_true, decide_eq_true_eq] at hf
        refine wpAny_BinOp (itemCell (k := (j : Int)) X₄ hrow hT hrs rfl rfl rfl (by decide) (by omega) (by omega) (by omega) (X₄.local_ hm ⟨_, rfl, X₄, fun t1 => ?_⟩))
        refine itemCell (k := (i : Int) - (j : Int)) X₄ hpow hD hps rfl rfl rfl (by decide) hf.1 hf.2 (by omega) (wpAny_BinOp (X₄.cell_ (v := .int i t') rfl (X₄.local_ hm (sub_int ⟨_, rfl, X₄.tk1, fun t2 => ?_⟩))))
        refine PyProof.Rows.mul_int ⟨fun j' t3 e _ _ => ?_, keeps_tok s₄ _⟩ (.of_left (hrb _ ?_))
        · cases e; exact ⟨_, rfl⟩
        · rw [List.getD_eq_getElem?_getD, List.getElem?_eq_getElem (by omega)]; exact List.getElem_mem _
      · intro vs ys h7 h8 h9
        exact ints_map (q := fits pw i) (term row pw i) (fun n t => rfl) (ints_iv h7 h8) h9 fun n t y hn _ hF => by
          simp only [iv, List.mem_map, List.mem_range] at hn
          obtain ⟨a, ha, rfl⟩ := hn
          exact hF _ t rfl (by omega) (by omega)
    · cases e; exact h.1
  · intro vs ys h7 h8 h9
    have := ints_map (q := fun _ => true) (fun k => (((iv 7).filter (fits pw k)).map (term row pw k)).sum) (fun n t => rfl) (ints_iv h7 h8) h9 fun n t y hn _ hF => hF n t rfl
    rw [filter_tt] at this
    exact this
end
end Mine

namespace Mine

section
variable {prog : Program} {w : World} {A : Around} {E : Value → Shared → Prop} {s : Shared}

theorem mkList {env : Env} {elts : List Expr} {pos : Pos} {R : List Value → Prop}
    (htr : backTo pos (starEach elts env) = elts.map fun e => (false, eval e env))
    (h : wpAny (model prog w) A (spliced (elts.map fun e => (false, eval e env))) (fun vs s₁ => R vs ∧ vs.length ≤ 1000 ∧ Keeps s s₁) (fun _ _ => False) s) :
    wpAny (model prog w) A (eval (.List elts pos) env) (fun v s' => Made s R v s' ∧ Keeps s s') (fun _ _ => False) s := by
  refine wpAny_List_spliced (htr ▸ wpAny_mono h (fun vs s₁ h₁ => ?_) fun _ _ e => e)
  obtain ⟨hR, hl, k⟩ := h₁
  refine ⟨by rw [sizeLine_eq]; omega, ⟨_, vs, 0, rfl, fresh_at k (Nat.le_refl _), Heap.get?_push_size _ rfl, hR⟩, ?_⟩
  exact keeps_trans k (keeps_push s₁ _ s₁.toks)

def isOne (vs : List Value) : Prop := IntsAre vs [1]

theorem power_call {T : Addr} {row : List Int} {n : Nat} {t : Tok} (r : Room 4 A) (hB : Base s.heap) (ht : 0 < s.toks) (hT : LInt s.heap T row) (hr7 : row.length = 7) (hrb : ∀ x ∈ row, Builtin.Int.intBits x ≤ 64) (hn : n ≤ 100) :
    wpAny (model prog w) A (call (.ref 49) [.ref T, .int (n : Int) t]) (fun v s' => (∃ D, v = .ref D ∧ s.heap.get? D = none ∧ LInt s'.heap D (powOf row n)) ∧ Keeps s s') (fun _ _ => False) s := by
  obtain ⟨rs, rk, hg, hrs⟩ := hT
  refine call_def (i := 6) (N := [(T, lst rs.toArray rk)]) (binds := [(Str.ofString "row", .ref T), (Str.ofString "n", .int n t)]) hB ht (fun p hp => by rw [List.mem_singleton.mp hp]; exact hg) hB.f49 r.depth (fun nm q doc pm cd ct an => BindsTo.of_eq rfl) ?_ rfl rfl rfl ?_
  · intro L p hp
    rcases List.mem_cons.mp hp with rfl | hp
    · exact .inr ⟨rfl, rfl⟩
    · rw [List.mem_singleton.mp hp]; exact .inl rfl
  · intro q cd s₁ X
    refine wpAny_execs_cons (X.madeC (P := fun vs => IntsAre vs [1]) (mkList rfl ?_) ?_)
    · exact spliced1 (wpAny_Constant_int ⟨.cons _ _ .nil, (by decide : 1 ≤ 1000), keeps_tok _ _⟩)
    · intro D0 ys0 k0 s₂ hf0 hi0 X
      refine wpAny_execs_cons (for_src (J := fun i m' cm' N' => cm' "row" = some (.ref T) ∧ (T, lst rs.toArray rk) ∈ N' ∧ (∃ D ps k, cm' "power" = some (.ref D) ∧ s.heap.get? D = none ∧ (D, lst (ps : List Value).toArray k) ∈ N' ∧ IntsAre ps (powOf row i)) ∧ ∀ p ∈ N', isIter p.2 = false) X rfl rfl ?_)
      refine X.ex.rangeTo (n := n) rfl (X.ex.local_ rfl ⟨_, rfl, X.ex, fun rr t' u v' s₃ hr X₃ _ => ?_⟩)
      refine ⟨n, _, _, Src.range (r.deeper _).hh hr (by omega), X₃, fun p hp => .inl hp, ⟨rfl, List.mem_cons_of_mem _ List.mem_cons_self, ⟨D0, ys0, k0, rfl, hf0, List.mem_cons_self, hi0⟩, ?_⟩, fun i m' cm' N' hJ => hJ.2.2.2, ?_, ?_⟩
      · intro p hp
        rcases List.mem_cons.mp hp with rfl | hp
        · rfl
        · rw [List.mem_singleton.mp hp]; rfl
      · intro i v m' cm' N' R' s₄ hi hP hJ X₄
        obtain ⟨hJ1, hJ2, ⟨D, ps, k, hJ3, hf, hJ4, hJ5⟩, hJ6⟩ := hJ
        refine wpAny_execs_cons (X₄.madeC (step_comp (r.deeper _).hh X₄.ex hJ1 hJ2 hrs hr7 hrb hJ3 hJ4 hJ5 (by rw [powOf_length]; omega)) fun D' ys' k' s₅ hf' hi' X₅ => wpAny_execs_nil ⟨rfl, _, _, _, X₅, hJ1, List.mem_cons_of_mem _ hJ2, ⟨D', ys', k', rfl, hf', List.mem_cons_self, hi'⟩, ?_⟩)
        intro p hp
        rcases List.mem_cons.mp hp with rfl | hp
        · rfl
        · exact hJ6 p hp
      · intro m' cm' N' s' hJ X'
        obtain ⟨hJ1, hJ2, ⟨D, ps, k, hJ3, hf, hJ4, hJ5⟩, hJ6⟩ := hJ
        exact wpAny_execs_cons (wpAny_Return_some (X'.ex.cell_ hJ3 ⟨_, rfl, ⟨D, rfl, hf, ps, k, X'.news _ hJ4, hJ5⟩, X'.keep⟩))
end
end Mine

namespace Mine

section
variable {prog : Program} {w : World} {A : Around} {E : Value → Shared → Prop} {s₀ s : Shared} {R : Heap} {env : Env} {m cm : Str → Option Value} {N : List (Addr × Obj)}

/-- what an expression made joins the frame; a list or a tuple is never the frame's own -/
theorem In.ofSeq {N' : List (Addr × Obj)} {s' : Shared} (x : In s₀ R env m cm N s) (e : Ex s env m cm N' s') (h : ∀ p ∈ N', p ∈ N ∨ s.heap.get? p.1 = none ∨ ∃ its n, p.2.data = .seq its n) : In s₀ R env m cm N' s' := by
  refine { toEx := ⟨keeps_trans x.keep e.keep, e.ns, e.cell, e.news, e.base, e.tok⟩, base0 := x.base0, fresh := x.fresh, apart := x.apart, above := x.above, off := ?_, since := fun b o h1 h2 h3 => keeps_get e.keep (x.since b o h1 h2 h3) }
  intro p hp
  rcases h p hp with h | h | ⟨its, n, h⟩
  · exact x.off p h
  · refine ⟨fun q => ?_, fun n c hc q => ?_⟩
    · obtain ⟨o, _, _, ho, _⟩ := x.ns
      rw [← q, h] at ho; cases ho
    · obtain ⟨o, ho, _⟩ := x.cell n c hc
      rw [← q, h] at ho; cases ho
  · have hg := e.news p hp
    refine ⟨fun q => ?_, fun n c hc q => ?_⟩
    · obtain ⟨o, es, ep, ho, hd, _⟩ := e.ns
      rw [← q, hg] at ho; cases ho
      rw [h] at hd; cases hd
    · obtain ⟨o, ho, hd⟩ := e.cell n c hc
      rw [← q, hg] at ho; cases ho
      rw [h] at hd; cases hd
theorem In.assignL2 {x : Str} {p' pos : Pos} {value : Expr} {Q : Flow → Shared → Prop} (X : In s₀ R env m cm N s)
    (h : wpAny (model prog w) A (eval value env) (fun v s' => ∃ N', Ex s env m cm N' s' ∧ (∀ p ∈ N', p ∈ N ∨ s.heap.get? p.1 = none ∨ ∃ its n, p.2.data = .seq its n) ∧ ∀ s'', In s₀ R env (upd m x v) cm N' s'' → Q .next s'') E s)
    (hk : env.scope.kind = .function := by rfl) (hl : env.kindOf x = some .local := by rfl) (hsw : swapsWith value (some (.Name x p')) pos.line env = pure false := by rfl) :
    wpAny (model prog w) A (exec (.Assign [.Name x p'] value pos) env) Q E s := by
  refine wpAny_Assign_Name (wpAny_mono h (fun v s' hv => ?_) fun _ _ e => e) hsw
  obtain ⟨N', e, hf, hq⟩ := hv
  exact (X.ofSeq e hf).stL hk hl hq
theorem In.assignC2 {x : Str} {c : Addr} {p' pos : Pos} {value : Expr} {Q : Flow → Shared → Prop} (X : In s₀ R env m cm N s)
    (h : wpAny (model prog w) A (eval value env) (fun v s' => ∃ N', Ex s env m cm N' s' ∧ (∀ p ∈ N', p ∈ N ∨ s.heap.get? p.1 = none ∨ ∃ its n, p.2.data = .seq its n) ∧ ∀ s'', In s₀ R env m (upd cm x v) N' s'' → Q .next s'') E s)
    (hk : env.scope.kind = .function := by rfl) (hl : env.kindOf x = some .cell := by rfl) (hc : env.cells.lookup x = some c := by rfl) (hsw : swapsWith value (some (.Name x p')) pos.line env = pure false := by rfl) :
    wpAny (model prog w) A (exec (.Assign [.Name x p'] value pos) env) Q E s := by
  refine wpAny_Assign_Name (wpAny_mono h (fun v s' hv => ?_) fun _ _ e => e) hsw
  obtain ⟨N', e, hf, hq⟩ := hv
  exact (X.ofSeq e hf).stC hk hl hc hq

theorem addL {l b : Addr} {vs ws : List Value} {n n2 : Nat} (hl : s.heap.get? l = some (lst vs.toArray n)) (hb : s.heap.get? b = some (lst ws.toArray n2)) (hsz : vs.length + ws.length ≤ sizeLine) :
    wpAny (model prog w) A (binaryOp .Add (.ref l) (.ref b)) (fun v s' => Made s (fun ys => ys = vs ++ ws) v s' ∧ Keeps s s') (fun _ _ => False) s := by
  have e : vs.toArray ++ ws.toArray = (vs ++ ws).toArray := by simp
  refine concat_meets ⟨_, hl, rfl⟩ ⟨_, hb, rfl⟩ noFill_list_add seq_list_add PySem.F.slot_list_add PySem.F.entry_list_add (PySem.F.args_list_add_2 _ _) (list_addW l b vs.toArray ws.toArray n n2 none none #[] #[] (by simpa using hsz)) ⟨hl, hb, ?_⟩
  rw [e]
  exact ⟨⟨_, _, 0, rfl, fresh_at (keeps_refl s) (Nat.le_refl _), Heap.get?_push_size _ rfl, rfl⟩, keeps_push s _ s.toks⟩

abbrev tupO (vs : List Value) : Obj := { cls := .type "tuple", data := .seq vs.toArray }

/-- (e, x, "..") -/
theorem tuple3 {e1 : Expr} {x wo : Str} {k k1 : Nat} {p1 p2 pos : Pos} {times : Int} {d : Addr} {Q : Value → Shared → Prop} (X : Ex s₀ env m cm N s)
    (h1 : ∀ Q' : Value → Shared → Prop, (∀ t s', Ex s₀ env m cm N s' → Q' (.int times t) s') → wpAny (model prog w) A (eval e1 env) Q' E s)
    (hx : m x = some (.ref d)) (hk : env.scope.kind = .function) (hl : env.kindOf x = some .local) (hd : (x == ("__debug__" : Str)) = false)
    (htr : backTo pos (starEach [e1, .Name x p1, .Constant (.str wo) k p2] env) = [(false, eval e1 env), (false, eval (.Name x p1) env), (false, eval (.Constant (.str wo) k p2) env)])
    (hq : ∀ T t1 t2 s', s₀.heap.get? T = none → Ex s₀ env m cm ((T, tupO [.int times t1, .ref d, .str wo t2]) :: N) s' → Q (.ref T) s') :
    wpAny (model prog w) A (eval (.Tuple [e1, .Name x p1, .Constant (.str wo) k p2] k1 pos) env) Q E s := by
  refine wpAny_Tuple_spliced ?_
  rw [htr]
  refine Calls.spliced_cons (h1 _ fun t s1 X1 => Calls.spliced_cons (X1.local_ hx ?_ hk hl hd))
  refine Calls.spliced_cons (Calls.Constant_str (Calls.spliced_nil ⟨by rw [sizeLine_eq]; simp, ?_⟩))
  have X2 := X1.tk1.push (tupO [.int times t, .ref d, .str wo s1.toks]) rfl
  exact hq _ _ _ _ (fresh_of X1.tk1.keep (fresh_at (keeps_refl _) (Nat.le_refl _))) X2

def PartOf (N : List (Addr × Obj)) (v : Value) (q : Int × Addr × Str) : Prop := ∃ T t1 t2, v = .ref T ∧ (T, tupO [.int q.1 t1, .ref q.2.1, .str q.2.2 t2]) ∈ N
theorem PartOf.sub {N N' : List (Addr × Obj)} {v : Value} {q : Int × Addr × Str} (h : PartOf N v q) (hs : ∀ p ∈ N, p ∈ N') : PartOf N' v q := let ⟨T, a, b, e, h⟩ := h; ⟨T, a, b, e, hs _ h⟩
theorem PartOf.uniq {v : Value} {q q' : Int × Addr × Str} (X : Ex s₀ env m cm N s) (h : PartOf N v q) (h' : PartOf N v q') : q = q' := by
  obtain ⟨T, a, b, rfl, h⟩ := h
  obtain ⟨T', a', b', e, h'⟩ := h'
  cases e
  have e1 := X.news _ h
  have e2 := X.news _ h'
  rw [e1] at e2
  simp only [Option.some.injEq, Obj.mk.injEq, Data.seq.injEq] at e2
  have := e2.2.2
  simp at this
  obtain ⟨⟨q1, _⟩, q2, q3, _⟩ := this
  exact Prod.ext q1 (Prod.ext q2 q3)

/-- what stands for a part in the list of powers -/
def PowOf (N : List (Addr × Obj)) (v : Value) (q : Int × List Int) : Prop := ∃ T t D zs k, v = .ref T ∧ (T, tupO [.int q.1 t, .ref D]) ∈ N ∧ (D, lst (zs : List Value).toArray k) ∈ N ∧ IntsAre zs q.2
theorem PowOf.sub {N N' : List (Addr × Obj)} {v : Value} {q : Int × List Int} (h : PowOf N v q) (hs : ∀ p ∈ N, p ∈ N') : PowOf N' v q := let ⟨T, t, D, zs, k, e, h1, h2, h3⟩ := h; ⟨T, t, D, zs, k, e, hs _ h1, hs _ h2, h3⟩
def PowAt (h : Heap) (v : Value) (q : Int × List Int) : Prop := ∃ T t D zs k, v = .ref T ∧ h.get? T = some (tupO [.int q.1 t, .ref D]) ∧ h.get? D = some (lst (zs : List Value).toArray k) ∧ IntsAre zs q.2
theorem powObjs {h : Heap} : ∀ {ys : List Value} {qs : List (Int × List Int)}, Paired (PowAt h) ys qs → ∃ Z : List (Addr × Obj), (∀ p ∈ Z, h.get? p.1 = some p.2 ∧ ∃ its n, p.2.data = .seq its n) ∧ Paired (PowOf Z) ys qs
  | _, _, .nil => ⟨[], (fun p hp => by cases hp), .nil⟩
  | _ :: _, b :: _, .cons ⟨T, t, D, zs, k, e, h1, h2, h3⟩ hr => by
    obtain ⟨Z, hZ, hp⟩ := powObjs hr
    refine ⟨(T, tupO [.int b.1 t, .ref D]) :: (D, lst zs.toArray k) :: Z, fun p hp => ?_, .cons ⟨T, t, D, zs, k, e, by simp, by simp, h3⟩ (hp.mono fun a b hab => hab.sub fun p hp => by simp [hp])⟩
    rcases List.mem_cons.mp hp with rfl | hp
    · exact ⟨h1, _, _, rfl⟩
    · rcases List.mem_cons.mp hp with rfl | hp
      · exact ⟨h2, _, _, rfl⟩
      · exact hZ p hp
theorem Ex.adds {Z : List (Addr × Obj)} (X : Ex s₀ env m cm N s) (h : ∀ p ∈ Z, s.heap.get? p.1 = some p.2) : Ex s₀ env m cm (Z ++ N) s :=
  ⟨X.keep, X.ns, X.cell, fun p hp => by rcases List.mem_append.mp hp with hp | hp; exact h p hp; exact X.news p hp, X.base, X.tok⟩

/-- f(..), f a def of the text's, in a block -/
theorem paired_trans {α β γ : Type} {F : α → β → Prop} {G : α → γ → Prop} {H : β → γ → Prop} (h : ∀ a b c, F a b → G a c → H b c) : ∀ {l₁ : List α} {l₂ : List β} {l₃ : List γ}, Paired F l₁ l₂ → Paired G l₁ l₃ → Paired H l₂ l₃
  | _, _, _, .nil, .nil => .nil
  | _, _, _, .cons f fs, .cons g gs => .cons (h _ _ _ f g) (paired_trans h fs gs)
end
end Mine

namespace Mine

theorem cnt_small {ns : List Int} {n : Nat} (h : ns.length ≤ 1000) : ∀ x ∈ cnt ns n, Builtin.Int.intBits x ≤ 64 := by
  intro x hx
  simp only [cnt, List.mem_map] at hx
  obtain ⟨a, _, rfl⟩ := hx
  have := List.count_le_length (a := (a : Int)) (l := ns)
  exact intBits_le_64 (by omega) (by omega)
theorem row_small {kvs : List (Str × Int)} {wo : Str} {xs : List Str} (h : xs.length ≤ 1000) : ∀ x ∈ rowOf kvs wo xs, Builtin.Int.intBits x ≤ 64 :=
  cnt_small (by rw [List.length_map]; exact Nat.le_trans (List.length_filter_le _ _) h)
theorem row_length (kvs : List (Str × Int)) (wo : Str) (xs : List Str) : (rowOf kvs wo xs).length = 7 := by simp [rowOf, cnt]

abbrev dictO (es : List DictEntry) (ep : Nat) : Obj := { cls := .type "dict", data := .dict es.toArray ep }
/-- a dict of widths that stands among what is known -/
structure DictIn (w : World) (N : List (Addr × Obj)) (d : Addr) (kvs : List (Str × Int)) : Prop where
  ex : ∃ es ep, (d, dictO es ep) ∈ N ∧ (∀ e ∈ es, GoodE w e) ∧ (es.map keyOf).Nodup ∧ IntE es kvs
  mods : (d == sysModules) = false
theorem DictIn.sub {w : World} {N N' : List (Addr × Obj)} {d : Addr} {kvs : List (Str × Int)} (h : DictIn w N d kvs) (hs : ∀ p ∈ N, p ∈ N') : DictIn w N' d kvs := ⟨let ⟨es, ep, a, b⟩ := h.ex; ⟨es, ep, hs _ a, b⟩, h.mods⟩

section
variable {prog : Program} {w : World} {A : Around} {E : Value → Shared → Prop} {s : Shared}

theorem spliced3 {x y z : Sem Value} {Q : List Value → Shared → Prop}
    (h : wpAny (model prog w) A x (fun a s₁ => wpAny (model prog w) A y (fun b s₂ => wpAny (model prog w) A z (fun c s₃ => Q [a, b, c] s₃) E s₂) E s₁) E s) : wpAny (model prog w) A (spliced [(false, x), (false, y), (false, z)]) Q E s :=
  Calls.spliced_cons (wpAny_mono h (fun _ _ h₁ => Calls.spliced_cons (wpAny_mono h₁ (fun _ _ h₂ => Calls.spliced_cons (wpAny_mono h₂ (fun _ _ h₃ => Calls.spliced_nil h₃) fun _ _ e => e)) fun _ _ e => e)) fun _ _ e => e)

/-- _law_power(_law_row(a, b, c), n) -/
theorem powRow {env : Env} {m cm : Str → Option Value} {N : List (Addr × Obj)} {e1 e2 e3 e4 : Expr} {p1 p2 p3 p4 : Pos} {Al d : Addr} {als : List Value} {ak : Nat} {xs : List Str} {kvs : List (Str × Int)} {wo : Str} {n : Nat} (r : Room 4 A) (X : Ex s env m cm N s)
    (hal : (Al, lst als.toArray ak) ∈ N) (has : StrsAre als xs) (hxl : xs.length ≤ 1000) (hd : DictIn w N d kvs) (hn : n ≤ 100)
    (h1 : ∀ {s'} (Q : Value → Shared → Prop), Ex s env m cm N s' → Q (.ref Al) s' → wpAny (model prog w) A (eval e1 env) Q (fun _ _ => False) s')
    (h2 : ∀ {s'} (Q : Value → Shared → Prop), Ex s env m cm N s' → Q (.ref d) s' → wpAny (model prog w) A (eval e2 env) Q (fun _ _ => False) s')
    (h3 : ∀ {s'} (Q : Value → Shared → Prop), Ex s env m cm N s' → (∀ t s'', Ex s env m cm N s'' → Keeps s' s'' → Q (.str wo t) s'') → wpAny (model prog w) A (eval e3 env) Q (fun _ _ => False) s')
    (h4 : ∀ {s'} (Q : Value → Shared → Prop), Ex s env m cm N s' → (∀ t, Q (.int (n : Int) t) s') → wpAny (model prog w) A (eval e4 env) Q (fun _ _ => False) s')
    (htr : backTo p4 (starEach [.Call (.Name "_law_row" p1) [e1, e2, e3] [] p2, e4] env) = [(false, eval (.Call (.Name "_law_row" p1) [e1, e2, e3] [] p2) env), (false, eval e4 env)])
    (htr2 : backTo p2 (starEach [e1, e2, e3] env) = [(false, eval e1 env), (false, eval e2 env), (false, eval e3 env)])
    (hk : env.scope.kind = .function := by rfl) (hl : env.kindOf "_law_power" = some .globalImplicit := by rfl) (hl2 : env.kindOf "_law_row" = some .globalImplicit := by rfl) (hgl : env.globals = mainGlobals := by rfl) :
    wpAny (model prog w) A (eval (.Call (.Name "_law_power" p3) [.Call (.Name "_law_row" p1) [e1, e2, e3] [] p2, e4] [] p4) env)
      (fun v s' => (∃ D, v = .ref D ∧ s.heap.get? D = none ∧ LInt s'.heap D (powOf (rowOf kvs wo xs) n)) ∧ Keeps s s') (fun _ _ => False) s := by
  refine Ex.callDef X (fun h b => b.f49) htr (by decide) (spliced2 (Ex.callDef X (fun h b => b.f44) htr2 (by decide) (spliced3 (h1 _ X (h2 _ X (h3 _ X fun t s₁ X₁ k₁ => ⟨k₁, ?_⟩)))) hk hl2 hgl)) hk hl hgl
  obtain ⟨es, ep, hde, hg, hnd, hi⟩ := hd.ex
  refine X₁.step (row_call r X₁.base X₁.tok ⟨als, ak, X₁.news _ hal, has⟩ ⟨⟨ep, X₁.news _ hde⟩, hg, hnd⟩ hd.mods hi hxl) fun v s₂ hv k₂ X₂ => ?_
  obtain ⟨D, rfl, hL⟩ := hv
  refine h4 _ X₂ fun t' => ⟨X₂.keep, ?_⟩
  refine wpAny_mono (power_call r X₂.base X₂.tok hL (row_length _ _ _) (row_small hxl) hn) (fun v s₃ h => ?_) fun _ _ e => e
  obtain ⟨⟨D', rfl, hf, hL'⟩, k₃⟩ := h
  exact ⟨⟨D', rfl, fresh_of X₂.keep hf, hL'⟩, keeps_trans X₂.keep k₃⟩

theorem paired_map {α β γ : Type} {F : α → γ → Prop} {f : β → γ} : ∀ {l₁ : List α} {l₂ : List β}, Paired (fun a b => F a (f b)) l₁ l₂ → Paired F l₁ (l₂.map f)
  | _, _, .nil => .nil
  | _, _, .cons h hs => .cons h (paired_map hs)
def valOf (kv : Addr → List (Str × Int)) (xs : List Str) (n : Nat) (q : Int × Addr × Str) : Int × List Int := (q.1, powOf (rowOf (kv q.2.1) q.2.2 xs) n)

theorem powers_comp {q0 : Str} {L : Addr} {cd : Value} {m cm : Str → Option Value} {N : List (Addr × Obj)} {Pa Al : Addr} {pvs als : List Value} {pk ak : Nat} {xs : List Str} {n : Nat} {tn : Tok} {parts : List (Int × Addr × Str)} {kv : Addr → List (Str × Int)} (r : Room 4 A) (X : Ex s (envOf' 7 q0 L 54 cd) m cm N s)
    (hpa : m "parts" = some (.ref Pa)) (hP : (Pa, lst pvs.toArray pk) ∈ N) (hps : Paired (PartOf N) pvs parts) (hpl : parts.length ≤ 100)
    (hal : cm "alphabet" = some (.ref Al)) (hAl : (Al, lst als.toArray ak) ∈ N) (has : StrsAre als xs) (hxl : xs.length ≤ 1000) (hn : cm "n" = some (.int (n : Int) tn)) (hn1 : n ≤ 100)
    (hdicts : ∀ q ∈ parts, DictIn w N q.2.1 (kv q.2.1)) :
    wpAny (model prog w) A (eval (valueOf (nth 3 (bodyOf (theDef 7)))) (envOf' 7 q0 L 54 cd)) (fun v s' => (∃ D ys k, v = .ref D ∧ s.heap.get? D = none ∧ s'.heap.get? D = some (lst (ys : List Value).toArray k) ∧ Paired (PowAt s'.heap) ys (parts.map (valOf kv xs n))) ∧ Keeps s s') (fun _ _ => False) s := by
  have hlen : pvs.length = parts.length := hps.length
  refine eval_of_comp (comp_names (s₀ := s) (m := m) (cm := cm) (fun _ => true)
    (fun W v y h => ∃ q, PartOf N v q ∧ ∃ T t D zs k, y = .ref T ∧ T ∉ W ∧ D ∉ W ∧ h.get? T = some (tupO [.int q.1 t, .ref D]) ∧ h.get? D = some (lst (zs : List Value).toArray k) ∧ IntsAre zs (powOf (rowOf (kv q.2.1) q.2.2 xs) n))
    (fun v mC => ∃ q t1 t2, PartOf N v q ∧ mC "times" = some (.int q.1 t1) ∧ mC "widths" = some (.ref q.2.1) ∧ mC "without" = some (.str q.2.2 t2)) ?_ rfl (by decide) rfl (by decide) (sub_of (.cons rfl (.cons rfl .nil))) ?_)
  · rintro W v y h h' ⟨q, hq, T, t, D, zs, k, e, h1, h2, h3, h4, h5⟩ hk
    exact ⟨q, hq, T, t, D, zs, k, e, h1, h2, hk _ _ h1 h3, hk _ _ h2 h4, h5⟩
  · refine X.local_ hpa ⟨_, _, N, Src.list r.hh (isList_lst (X.news _ hP)), by rw [hlen, sizeLine_eq]; omega, X, ?_, ?_, ?_, ?_, ?_⟩
    · intro i v hi hv
      obtain ⟨q, _, T, t1, t2, rfl, _⟩ := paired_at hps i v hv
      exact .inr ⟨_, _, _, T, rfl, rfl⟩
    · intro C i v s₂ mC hi hv X₂ hmC
      obtain ⟨q, _, hq⟩ := paired_at hps i v hv
      obtain ⟨T, t1, t2, rfl, hT⟩ := id hq
      refine wpAny_mono (assign_tuple3 (m := mC) r.hh ⟨_, X₂.news _ hT, rfl, 0, rfl⟩ hmC rfl rfl rfl rfl) (fun _ s₃ h₃ => ?_) fun _ _ e => e
      obtain ⟨h', tk, e, hn, _, hk⟩ := h₃
      exact ⟨h', tk, _, e, hn, ⟨q, t1, t2, hq, rfl, rfl, rfl⟩, hk⟩
    · intro C i v s₂ mC hi hP hG X₂
      exact tests_nil ⟨rfl, keeps_refl _⟩
    · intro C i v s₂ W mC hi hv _ hG X₂ hW
      obtain ⟨q', hq'm, hq'⟩ := paired_at hps i v hv
      obtain ⟨q, t1, t2, hq, g1, g2, g3⟩ := hG
      have : q = q' := PartOf.uniq X₂ hq hq'
      subst this
      have hqp : q ∈ parts := List.mem_of_getElem? hq'm
      refine wpAny_Tuple_spliced (spliced2 (X₂.local_ g1 (wpAny_any (powRow (wo := q.2.2) (n := n) r X₂ hAl has hxl (hdicts q hqp) hn1 ?_ ?_ ?_ ?_ rfl rfl) fun v s₃ hv => ?_)))
      · intro s' Q X' hQ; exact X'.cell_ hal hQ
      · intro s' Q X' hQ; exact X'.local_ g2 hQ
      · intro s' Q X' hQ; exact X'.local_ g3 (hQ _ _ X' (keeps_refl _))
      · intro s' Q X' hQ; exact X'.cell_ hn (hQ _)
      · obtain ⟨⟨D, rfl, hD, zs, k, hg, hi⟩, k₃⟩ := hv
        refine ⟨by rw [sizeLine_eq]; simp, ⟨q, hq, s₃.heap.objs.size, t1, D, zs, k, rfl, fun hT => ?_, fun hT => ?_, Heap.get?_push_size _ rfl, Heap.get?_push_of_some _ hg, hi⟩, keeps_trans k₃ (keeps_push s₃ _ s₃.toks)⟩
        · obtain ⟨o, ho⟩ := hW _ hT
          exact Nat.lt_irrefl _ (Heap.lt_size (keeps_get k₃ ho))
        · obtain ⟨o, ho⟩ := hW _ hT
          rw [hD] at ho; cases ho
    · intro D C W ys k s' vs h1 h2 h3 h4 h5 h6 h7 h8 h9 hCW
      rw [filter_true] at h9
      have hvs := same_vals h7 h8
      subst hvs
      refine post_eval X h2 h3 h4 h5 h6 fun h' hs X' => ⟨⟨D, ys.toList, k, rfl, h1, by simpa using X'.news _ List.mem_cons_self, ?_⟩, X'.keep⟩
      have hp := paired_trans (H := fun y q => PowAt h' y (valOf kv xs n q)) (fun v y q hF hq => ?_) h9 hps
      · exact paired_map hp
      · obtain ⟨q', hq', T, t, D, zs, k, e, g1, g2, g3, g4, g5⟩ := hF
        have : q' = q := PartOf.uniq X hq' hq
        subst this
        exact ⟨T, t, D, zs, k, e, hs.extBut _ _ (fun e => g1 (e ▸ hCW)) g3, hs.extBut _ _ (fun e => g2 (e ▸ hCW)) g4, g5⟩
end
end Mine

namespace Mine

def weigh (qs : List (Int × List Int)) (k : Int) : Int := (qs.map fun q => q.1 * q.2.getD k.toNat 0).sum
theorem ints_uniq : ∀ {vs : List Value} {a b : List Int}, IntsAre vs a → IntsAre vs b → a = b
  | _, _, _, .nil, .nil => rfl
  | _, _, _, .cons n t h, .cons _ _ h' => by rw [ints_uniq h h']

section
variable {prog : Program} {w : World} {A : Around} {E : Value → Shared → Prop} {s₀ s : Shared} {env : Env} {m cm : Str → Option Value} {N : List (Addr × Obj)}

theorem PowOf.uniq {v : Value} {q q' : Int × List Int} (X : Ex s₀ env m cm N s) (h : PowOf N v q) (h' : PowOf N v q') : q = q' := by
  obtain ⟨T, a, D, zs, k, rfl, h1, h2, h3⟩ := h
  obtain ⟨T', a', D', zs', k', e, h1', h2', h3'⟩ := h'
  cases e
  have e1 := X.news _ h1
  have e2 := X.news _ h1'
  rw [e1] at e2
  simp only [Option.some.injEq, Obj.mk.injEq, Data.seq.injEq] at e2
  have := e2.2.2
  simp at this
  obtain ⟨⟨q1, _⟩, rfl⟩ := this
  have e3 := X.news _ h2
  have e4 := X.news _ h2'
  rw [e3] at e4
  simp only [Option.some.injEq, Obj.mk.injEq, Data.seq.injEq] at e4
  have := e4.2.2
  simp at this
  obtain ⟨rfl, _⟩ := this
  exact Prod.ext q1 (ints_uniq h3 h3')

theorem ints_of_pow {F : Value → (Int × List Int) → Prop} {G : Value → Value → Prop} (f : (Int × List Int) → Int) (h : ∀ v q y, F v q → G v y → ∃ t, y = .int (f q) t) : ∀ {vs ys : List Value} {qs : List (Int × List Int)}, Paired F vs qs → Paired G vs ys → IntsAre ys (qs.map f)
  | _, _, _, .nil, .nil => .nil
  | _, _, _, .cons a as, .cons b bs => by
    obtain ⟨t, rfl⟩ := h _ _ _ a b
    exact .cons _ _ (ints_of_pow f h as bs)

/-- l[i], l a name that holds a list of ints -/
theorem itemLocal {a : Str} {L : Addr} {ls : List Value} {lk : Nat} {ns : List Int} {p pos : Pos} {slice : Expr} {k : Int} {Q : Value → Shared → Prop} (X : Ex s₀ env m cm N s) (ha : m a = some (.ref L)) (hg : (L, lst ls.toArray lk) ∈ N) (hli : IntsAre ls ns)
    (hk : env.scope.kind = .function) (hla : env.kindOf a = some .local) (hda : (a == ("__debug__" : Str)) = false)
    (h0 : 0 ≤ k) (hlt : k < (ns.length : Int)) (hlen : ns.length ≤ 1000)
    (h : wpAny (model prog w) A (eval slice env) (fun v s₁ => ∃ u, v = .int k u ∧ Ex s₀ env m cm N s₁ ∧ ∀ t, Q (.int (ns.getD k.toNat 0) t) s₁) E s)
    (hs : ∀ u, subscripted slice false (.ref L) (.int k u) = operate [.ref L, .int k u] (getItem (.ref L) (.int k u)) := by intro _; with_unfolding_all rfl) (hgo : ∀ r, letTemporaryGo (.Name a p) (.ref L) r = pure () := by intro _; with_unfolding_all rfl) :
    wpAny (model prog w) A (eval (.Subscript (.Name a p) slice pos) env) Q E s := by
  refine Subscript_ (X.local_ ha (wpAny_mono h (fun v s₁ h₁ => ?_) fun _ _ e => e) hk hla hda)
  obtain ⟨u, rfl, X₁, hq⟩ := h₁
  have hkn : k.toNat < ns.length := by omega
  obtain ⟨t, ht⟩ := ints_at hli k.toNat (ns.getD k.toNat 0) (by simp [hkn])
  exact item_listL (isList_lst (X₁.news _ hg)) h0 (by omega) ht (hq t) (hs u) hgo

theorem weigh_comp {q0 : Str} {L : Addr} {cd : Value} {D : Addr} {ys : List Value} {yk : Nat} {qs : List (Int × List Int)} {n : Nat} {tn : Tok} (hh : A.handled = none) (X : Ex s (envOf' 7 q0 L 54 cd) m cm N s)
    (hD : cm "powers" = some (.ref D)) (hDN : (D, lst ys.toArray yk) ∈ N) (hys : Paired (PowOf N) ys qs) (hql : qs.length ≤ 100) (hq1 : ∀ q ∈ qs, Builtin.Int.intBits q.1 ≤ 64 ∧ q.2.length = 6 * n + 1)
    (hn : cm "n" = some (.int (n : Int) tn)) (hn1 : n ≤ 100) {e : Expr} (he : ∃ l o p, valueOf (nth 4 (bodyOf (theDef 7))) = .BinOp l o e p) :
    wpAny (model prog w) A (eval e (envOf' 7 q0 L 54 cd)) (fun v s' => Made s (fun zs => IntsAre zs ((iv (6 * n + 1)).map (weigh qs))) v s' ∧ Keeps s s') (fun _ _ => False) s := by
  obtain ⟨l, o, p, he⟩ := he
  injection he with _ _ he
  subst he
  have hlen : ys.length = qs.length := hys.length
  refine map_cell (x := "k") X (fun _ => true) (fun v y => ∀ k t, v = .int k t → ∃ t', y = .int (weigh qs k) t') _ rfl (fun C => rfl) rfl (by decide) (sub_of (.cons rfl .nil)) rfl ?_
  refine X.rangeTo (n := 6 * n + 1) rfl (wpAny_BinOp (wpAny_BinOp (wpAny_Constant_int (X.tk1.cell_ hn (PyProof.Rows.mul_int (wpAny_Constant_int (add_int ⟨_, by rw [show ((6 * n + 1 : Nat) : Int) = 6 * (n : Int) + 1 by omega], X.tk1.tk1.tk1.tk1, fun r t u v' s₁ hr X₁ _ => ?_⟩)) (.of_left (by decide)))))))
  refine ⟨_, _, _, Src.range hh hr (by omega), by rw [sizeLine_eq]; omega, X₁, ?_, ?_, ?_⟩
  · intro C i v s₂ mC hi hP X₂
    exact tests_nil ⟨rfl, keeps_refl _⟩
  · intro C i v s₂ mC hi hP _ X₂
    obtain ⟨t', rfl⟩ := hP
    refine wpAny_mono (sumCall (ns := qs.map fun q => q.1 * q.2.getD i 0) hh X₂ rfl ?_) (fun v s' h => ⟨fun k t e => ?_, h.2⟩) fun _ _ e => e
    · refine eval_of_comp (comp_names (s₀ := s₂) (m := mC) (cm := upd cm "k" (.int i t')) (fun _ => true) (fun _ v y _ => ∃ q, PowOf N v q ∧ ∃ t, y = .int (q.1 * q.2.getD i 0) t)
        (fun v mC => ∃ q t1 D zs k, PowOf N v q ∧ mC "times" = some (.int q.1 t1) ∧ mC "power" = some (.ref D) ∧ (D, lst (zs : List Value).toArray k) ∈ N ∧ IntsAre zs q.2) (fun _ _ _ _ _ h _ => h) rfl (by decide) rfl (by decide) (sub_of (.cons rfl .nil)) ?_)
      refine X₂.cell_ hD ⟨_, _, N, Src.list hh (isList_lst (X₂.news _ hDN)), by rw [hlen, sizeLine_eq]; omega, X₂, ?_, ?_, ?_, ?_, ?_⟩
      · intro i v hi hv
        obtain ⟨q, _, T, t1, D, zs, k, rfl, _⟩ := paired_at hys i v hv
        exact .inr ⟨_, _, _, T, rfl, rfl⟩
      · intro C' j v s₃ mC' hj hv X₃ hmC
        obtain ⟨q, _, hq⟩ := paired_at hys j v hv
        obtain ⟨T, t1, D, zs, k, rfl, hT, hDz, hz⟩ := id hq
        refine wpAny_mono (assign_tuple2 (m := mC') hh ⟨_, X₃.news _ hT, rfl, 0, rfl⟩ hmC rfl rfl rfl) (fun _ s₄ h₄ => ?_) fun _ _ e => e
        obtain ⟨h', tk, e, hn, _, hk⟩ := h₄
        exact ⟨h', tk, _, e, hn, ⟨q, t1, D, zs, k, hq, rfl, rfl, hDz, hz⟩, hk⟩
      · intro C' j v s₃ mC' hj hv hG X₃
        exact tests_nil ⟨rfl, keeps_refl _⟩
      · intro C' j v s₃ W mC' hj hv _ hG X₃ hW
        obtain ⟨q', hq'm, hq'⟩ := paired_at hys j v hv
        obtain ⟨q, t1, D, zs, k, hq, g1, g2, g3, g4⟩ := hG
        have : q = q' := PowOf.uniq X₃ hq hq'
        subst this
        have hb := hq1 q (List.mem_of_getElem? hq'm)
        refine wpAny_BinOp (X₃.local_ g1 (itemLocal (k := (i : Int)) X₃ g2 g3 g4 rfl rfl (by decide) (by omega) (by rw [hb.2]; omega) (by rw [hb.2]; omega) (X₃.cell_ (v := .int i t') rfl ⟨_, rfl, X₃, fun t2 => ?_⟩)))
        exact PyProof.Rows.mul_int ⟨⟨q, hq, _, rfl⟩, keeps_tok s₃ _⟩ (.of_left hb.1)
      · intro D' C' W zs k s' vs h1 h2 h3 h4 h5 h6 h7 h8 h9 hCW
        rw [filter_true] at h9
        have hvs := same_vals h7 h8
        subst hvs
        exact fin_eval X₂ h2 h3 h4 h5 h6 fun s'' hg _ => ⟨D', zs.toList, k, rfl, h1, by simpa using hg, ints_of_pow _ (fun v q y hq hF => by
          obtain ⟨q', hq', t, rfl⟩ := hF
          have : q' = q := PowOf.uniq X₂ hq' hq
          subst this
          exact ⟨t, rfl⟩) hys h9⟩
    · cases e; exact h.1
  · intro vs ys h7 h8 h9
    have := ints_map (q := fun _ => true) (weigh qs) (fun n t => rfl) (ints_iv h7 h8) h9 fun n t y hn _ hF => hF n t rfl
    rw [filter_tt] at this
    exact this
end
end Mine

namespace Mine

def dqsq : Str := Str.ofString "\"'"
def bareKv : List (Str × Int) := [(Str.ofString "&", 5), (Str.ofString "<", 4), (Str.ofString ">", 4), (Str.ofString "\n", 5), (Str.ofString "\u000d", 5), (Str.ofString "\t", 4)]
def markedKv : List (Str × Int) := (dq, 6) :: bareKv
def partsOf (B M : Addr) : List (Int × Addr × Str) := [(1, B, dq), (1, B, sq), (-1, B, dqsq), (1, M, Str.ofString ""), (-1, M, dq), (-1, M, sq), (1, M, dqsq)]
def qsOf (xs : List Str) (n : Nat) : List (Int × List Int) :=
  [(1, powOf (rowOf bareKv dq xs) n), (1, powOf (rowOf bareKv sq xs) n), (-1, powOf (rowOf bareKv dqsq xs) n), (1, powOf (rowOf markedKv (Str.ofString "") xs) n), (-1, powOf (rowOf markedKv dq xs) n), (-1, powOf (rowOf markedKv sq xs) n), (1, powOf (rowOf markedKv dqsq xs) n)]
def quotedOf (xs : List Str) (n : Nat) : List Int := [0, 0] ++ (iv (6 * n + 1)).map (weigh (qsOf xs n))
def kvOf (B : Addr) (d : Addr) : List (Str × Int) := if d = B then bareKv else markedKv
theorem vals_parts {B M : Addr} (h : M ≠ B) (xs : List Str) (n : Nat) : (partsOf B M).map (valOf (kvOf B) xs n) = qsOf xs n := by
  simp [partsOf, valOf, kvOf, qsOf, h]

abbrev bareVs (t : Nat) : List (Value × Value) := [(.str (Str.ofString "&") t, .int 5 (t + 1)), (.str (Str.ofString "<") (t + 1 + 1), .int 4 (t + 1 + 1 + 1)), (.str (Str.ofString ">") (t + 1 + 1 + 1 + 1), .int 4 (t + 1 + 1 + 1 + 1 + 1)),
  (.str (Str.ofString "\n") (t + 1 + 1 + 1 + 1 + 1 + 1), .int 5 (t + 1 + 1 + 1 + 1 + 1 + 1 + 1)), (.str (Str.ofString "\u000d") (t + 1 + 1 + 1 + 1 + 1 + 1 + 1 + 1), .int 5 (t + 1 + 1 + 1 + 1 + 1 + 1 + 1 + 1 + 1)), (.str (Str.ofString "\t") (t + 1 + 1 + 1 + 1 + 1 + 1 + 1 + 1 + 1 + 1), .int 4 (t + 1 + 1 + 1 + 1 + 1 + 1 + 1 + 1 + 1 + 1 + 1))]
theorem bare_rep (w : World) (t : Nat) : IntE (entsOf w (bareVs t)) bareKv :=
  .cons ⟨_, _, rfl, rfl⟩ (.cons ⟨_, _, rfl, rfl⟩ (.cons ⟨_, _, rfl, rfl⟩ (.cons ⟨_, _, rfl, rfl⟩ (.cons ⟨_, _, rfl, rfl⟩ (.cons ⟨_, _, rfl, rfl⟩ .nil)))))
theorem marked_rep (w : World) (t t' : Nat) : IntE (entsOf w [(.str dq t, .int 6 (t + 1))] ++ entsOf w (bareVs t')) markedKv := .cons ⟨_, _, rfl, rfl⟩ (bare_rep w t')

section
variable {prog : Program} {w : World} {A : Around} {E : Value → Shared → Prop} {s : Shared}

theorem neg1 {s₀ : Shared} {env : Env} {m cm : Str → Option Value} {N : List (Addr × Obj)} {k : Nat} {p p' : Pos} {i : Int} {Q : Value → Shared → Prop} (X : Ex s₀ env m cm N s) (h : ∀ t s', Ex s₀ env m cm N s' → Q (.int (-i) t) s') :
    wpAny (model prog w) A (eval (.UnaryOp .USub (.Constant (.int i) k p) p') env) Q E s :=
  wpAny_UnaryOp (wpAny_Constant_int (neg_int (h _ _ X.tk1.tk1)))
theorem pos1 {s₀ : Shared} {env : Env} {m cm : Str → Option Value} {N : List (Addr × Obj)} {k : Nat} {p : Pos} {i : Int} {Q : Value → Shared → Prop} (X : Ex s₀ env m cm N s) (h : ∀ t s', Ex s₀ env m cm N s' → Q (.int i t) s') :
    wpAny (model prog w) A (eval (.Constant (.int i) k p) env) Q E s := wpAny_Constant_int (h _ _ X.tk1)

theorem listE {env : Env} {elts : List Expr} {pos : Pos} {Q : Value → Shared → Prop} (htr : backTo pos (starEach elts env) = elts.map fun e => (false, eval e env))
    (h : wpAny (model prog w) A (spliced (elts.map fun e => (false, eval e env))) (fun vs s₁ => vs.length ≤ sizeLine ∧ Q (.ref s₁.heap.objs.size) { s₁ with heap := s₁.heap.push { cls := .type "list", data := .seq vs.toArray } }) E s) :
    wpAny (model prog w) A (eval (.List elts pos) env) Q E s := wpAny_List_spliced (htr ▸ h)
theorem dict_last1 {env : Env} {c v1 v : Expr} {o : Addr} {es0 : List DictEntry} {pos : Pos} (P : List (Value × Value) → Prop)
    (hmv : ∀ s₁, Keeps s s₁ → s.toks ≤ s₁.toks → wpAny (model prog w) A (eval v env) (fun v s₂ => v = .ref o ∧ Keeps s₁ s₂) (fun _ _ => False) s₁) (ho : SD w s.heap o es0) (hoS : (o == sysModules) = false) (hsz : es0.length ≤ 1000)
    (hp : ∀ s₁, Keeps s s₁ → s.toks ≤ s₁.toks → wpAny (model prog w) A (evalPairs (pairTrees [some c] [v1] env pos)) (fun vs s₂ => P vs ∧ Keeps s₁ s₂) (fun _ _ => False) s₁)
    (hP : ∀ vs, P vs → (∀ p ∈ vs, ∃ k t, p.1 = .str k t) ∧ ((entsOf w vs ++ es0).map keyOf).Nodup) :
    wpAny (model prog w) A (eval (.Dict [some c, none] [v1, v] pos) env) (fun v s' => (∃ D vs, v = .ref D ∧ P vs ∧ D = s.heap.objs.size ∧ SD w s'.heap D (entsOf w vs ++ es0)) ∧ Keeps s s') (fun _ _ => False) s :=
  dict_last (ks := [some c]) (vs := [v1]) P rfl rfl (List.cons_ne_nil _ _) (by show 1 ≤ 15; decide) hmv ho hoS hsz hp hP rfl
theorem assignLE {s₀ : Shared} {R : Heap} {env : Env} {m cm : Str → Option Value} {N : List (Addr × Obj)} {x : Str} {p' pos : Pos} {value : Expr} {Q : Flow → Shared → Prop} (X : In s₀ R env m cm N s)
    (hk : env.scope.kind = .function) (hl : env.kindOf x = some .local) (hsw : swapsWith value (some (.Name x p')) pos.line env = pure false)
    (h : wpAny (model prog w) A (eval value env) (fun v s' => ∃ N', Ex s env m cm N' s' ∧ (∀ p ∈ N', p ∈ N ∨ s.heap.get? p.1 = none ∨ ∃ its n, p.2.data = .seq its n) ∧ ∀ s'', In s₀ R env (upd m x v) cm N' s'' → Q .next s'') E s) :
    wpAny (model prog w) A (exec (.Assign [.Name x p'] value pos) env) Q E s := In.assignL2 X h hk hl hsw

theorem assignCE {s₀ : Shared} {R : Heap} {env : Env} {m cm : Str → Option Value} {N : List (Addr × Obj)} {x : Str} {c : Addr} {p' pos : Pos} {value : Expr} {Q : Flow → Shared → Prop} (X : In s₀ R env m cm N s)
    (hk : env.scope.kind = .function) (hl : env.kindOf x = some .cell) (hc : env.cells.lookup x = some c) (hsw : swapsWith value (some (.Name x p')) pos.line env = pure false)
    (h : wpAny (model prog w) A (eval value env) (fun v s' => ∃ N', Ex s env m cm N' s' ∧ (∀ p ∈ N', p ∈ N ∨ s.heap.get? p.1 = none ∨ ∃ its n, p.2.data = .seq its n) ∧ ∀ s'', In s₀ R env m (upd cm x v) N' s'' → Q .next s'') E s) :
    wpAny (model prog w) A (exec (.Assign [.Name x p'] value pos) env) Q E s := In.assignC2 X h hk hl hc hsw

theorem quoted_call {Al : Addr} {xs : List Str} {n : Nat} {t : Tok} (r : Room 6 A) (hB : Base s.heap) (ht : 0 < s.toks) (hAl : LStr s.heap Al xs) (hxl : xs.length ≤ 1000) (hn : n ≤ 100) :
    wpAny (model prog w) A (call (.ref 54) [.ref Al, .int (n : Int) t]) (fun v s' => (∃ D, v = .ref D ∧ LInt s'.heap D (quotedOf xs n)) ∧ Keeps s s') (fun _ _ => False) s := by
  obtain ⟨als, ak, hg, has⟩ := hAl
  refine call_def (i := 7) (N := [(Al, lst als.toArray ak)]) (binds := [(Str.ofString "alphabet", .ref Al), (Str.ofString "n", .int n t)]) hB ht (fun p hp => by rw [List.mem_singleton.mp hp]; exact hg) hB.f54 r.depth (fun nm q doc pm cd ct an => BindsTo.of_eq rfl) ?_ rfl rfl rfl ?_
  · intro L p hp
    rcases List.mem_cons.mp hp with rfl | hp
    · exact .inr ⟨rfl, rfl⟩
    · rw [List.mem_singleton.mp hp]; exact .inr ⟨rfl, rfl⟩
  · intro q cd s₁ X
    -- bare
    refine wpAny_execs_cons ?_
    with_reducible refine assignLE X ?_ ?_ ?_ ?_
    · rfl
    · rfl
    · rfl
    with_reducible refine Ex.step X.ex (dict_pairs (w := w) (fun vs => ∃ t, vs = bareVs t) ?_ ?_ ?_ ?_ ?_ ?_) ?_
    · rfl
    · rfl
    · exact List.cons_ne_nil _ _
    · decide
    · intro s₂ k ht
      with_reducible refine pairTrees_cons_walk (Calls.Constant_str (wpAny_Constant_int (pairTrees_cons_walk (Calls.Constant_str (wpAny_Constant_int (pairTrees_cons_walk (Calls.Constant_str (wpAny_Constant_int (pairTrees_cons_walk (Calls.Constant_str (wpAny_Constant_int (pairTrees_cons_walk (Calls.Constant_str (wpAny_Constant_int (pairTrees_cons_walk (Calls.Constant_str (wpAny_Constant_int (pairTrees_nil_walk ?_))))))))))))))))))
      exact ⟨⟨s₂.toks, rfl⟩, keeps_tok _ _⟩
    · rintro vs ⟨t, rfl⟩
      refine ⟨fun p hp => ?_, ?_⟩
      · simp only [List.mem_cons, List.mem_nil_iff, or_false] at hp
        rcases hp with rfl | rfl | rfl | rfl | rfl | rfl <;> exact ⟨_, _, rfl⟩
      · show [Str.ofString "&", Str.ofString "<", Str.ofString ">", Str.ofString "\n", Str.ofString "\u000d", Str.ofString "\t"].Nodup
        decide
    rintro v s₂ ⟨B, vs, rfl, ⟨tb, rfl⟩, hBa, hSB⟩ k2 X2
    obtain ⟨epB, hgB⟩ := hSB.get
    refine ⟨_, X2.add hgB, fun p hp => ?_, fun s₃ X3 => ?_⟩
    · rcases List.mem_cons.mp hp with rfl | hp
      · exact .inr (.inl (fresh_at (keeps_refl s₁) (Nat.le_of_eq hBa.symm)))
      · exact .inl hp
    have hBS : (B == sysModules) = false := by
      have : sysModules < B := hBa ▸ X.base.big
      simpa using Nat.ne_of_gt this
    have hSB3 : SD w s₃.heap B (entsOf w (bareVs tb)) := ⟨⟨epB, X3.news _ List.mem_cons_self⟩, hSB.keys, hSB.nodup⟩
    -- marked
    refine wpAny_execs_cons ?_
    with_reducible refine assignLE X3 ?_ ?_ ?_ ?_
    · rfl
    · rfl
    · rfl
    with_reducible refine Ex.step X3.ex (dict_last1 (w := w) (o := B) (es0 := entsOf w (bareVs tb)) (fun vs => ∃ t, vs = [(.str dq t, .int 6 (t + 1))]) ?_ hSB3 hBS ?_ ?_ ?_) ?_
    · intro s₄ k ht
      exact ((X3.ex.to k (Nat.lt_of_lt_of_le X3.tok ht)).root.local_ rfl ⟨rfl, keeps_refl _⟩)
    · show 6 ≤ 1000
      omega
    · intro s₄ k ht
      exact pairTrees_cons_walk (Calls.Constant_str (wpAny_Constant_int (pairTrees_nil_walk ⟨⟨s₄.toks, rfl⟩, keeps_tok _ _⟩)))
    · rintro vs ⟨t, rfl⟩
      refine ⟨fun p hp => ?_, ?_⟩
      · rw [List.mem_singleton.mp hp]; exact ⟨_, _, rfl⟩
      · show [Str.ofString "\"", Str.ofString "&", Str.ofString "<", Str.ofString ">", Str.ofString "\n", Str.ofString "\u000d", Str.ofString "\t"].Nodup
        decide
    rintro v s₄ ⟨M, vs, rfl, ⟨tm, rfl⟩, hMa, hSM⟩ k4 X4
    obtain ⟨epM, hgM⟩ := hSM.get
    have hMn : s₃.heap.get? M = none := fresh_at (keeps_refl s₃) (Nat.le_of_eq hMa.symm)
    have hMB : M ≠ B := (ne_of_get (X3.news _ List.mem_cons_self) hMn).symm
    refine ⟨_, X4.add hgM, fun p hp => ?_, fun s₅ X5 => ?_⟩
    · rcases List.mem_cons.mp hp with rfl | hp
      · exact .inr (.inl hMn)
      · exact .inl hp
    have hMS : (M == sysModules) = false := by
      have : sysModules < M := hMa ▸ X3.base.big
      simpa using Nat.ne_of_gt this
    -- parts
    refine wpAny_execs_cons ?_
    with_reducible refine assignLE X5 ?_ ?_ ?_ ?_
    · rfl
    · rfl
    · rfl
    with_reducible refine listE ?_ ?_
    · rfl
    refine Calls.spliced_cons (tuple3 (times := 1) (d := B) X5.ex (fun Q' h => pos1 X5.ex h) rfl rfl rfl (by decide) rfl fun T1 a1 b1 s6 f1 X6 => ?_)
    refine Calls.spliced_cons (tuple3 (times := 1) (d := B) X6 (fun Q' h => pos1 X6 h) rfl rfl rfl (by decide) rfl fun T2 a2 b2 s7 f2 X7 => ?_)
    refine Calls.spliced_cons (tuple3 (times := -1) (d := B) X7 (fun Q' h => neg1 X7 h) rfl rfl rfl (by decide) rfl fun T3 a3 b3 s8 f3 X8 => ?_)
    refine Calls.spliced_cons (tuple3 (times := 1) (d := M) X8 (fun Q' h => pos1 X8 h) rfl rfl rfl (by decide) rfl fun T4 a4 b4 s9 f4 X9 => ?_)
    refine Calls.spliced_cons (tuple3 (times := -1) (d := M) X9 (fun Q' h => neg1 X9 h) rfl rfl rfl (by decide) rfl fun T5 a5 b5 s10 f5 X10 => ?_)
    refine Calls.spliced_cons (tuple3 (times := -1) (d := M) X10 (fun Q' h => neg1 X10 h) rfl rfl rfl (by decide) rfl fun T6 a6 b6 s11 f6 X11 => ?_)
    refine Calls.spliced_cons (tuple3 (times := 1) (d := M) X11 (fun Q' h => pos1 X11 h) rfl rfl rfl (by decide) rfl fun T7 a7 b7 s12 f7 X12 => Calls.spliced_nil ⟨by rw [sizeLine_eq]; simp, ?_⟩)
    refine ⟨_, X12.push _ rfl, fun p hp => ?_, fun s13 X13 => ?_⟩
    · simp only [List.mem_cons] at hp
      rcases hp with rfl | rfl | rfl | rfl | rfl | rfl | rfl | rfl | hp
      iterate 8 exact .inr (.inr ⟨_, _, rfl⟩)
      exact .inl (by simpa using hp)
    generalize hN13 : (s12.heap.objs.size, _) :: _ = N13 at X13
    have mP : (s12.heap.objs.size, lst [Value.ref T1, .ref T2, .ref T3, .ref T4, .ref T5, .ref T6, .ref T7].toArray 0) ∈ N13 := by rw [← hN13]; exact List.mem_cons_self
    have mT : ∀ p, p ∈ [(T7, tupO [.int 1 a7, .ref M, .str dqsq b7]), (T6, tupO [.int (-1) a6, .ref M, .str sq b6]), (T5, tupO [.int (-1) a5, .ref M, .str dq b5]), (T4, tupO [.int 1 a4, .ref M, .str (Str.ofString "") b4]),
        (T3, tupO [.int (-1) a3, .ref B, .str dqsq b3]), (T2, tupO [.int 1 a2, .ref B, .str sq b2]), (T1, tupO [.int 1 a1, .ref B, .str dq b1]), (M, dictO (entsOf w [(Value.str dq tm, Value.int 6 (tm + 1))] ++ entsOf w (bareVs tb)) epM), (B, dictO (entsOf w (bareVs tb)) epB), (Al, lst als.toArray ak)] → p ∈ N13 := by
      intro p hp
      rw [← hN13]; exact List.mem_cons_of_mem _ hp
    have hDB : DictIn w N13 B bareKv := ⟨⟨_, epB, mT _ (by simp), hSB.keys, hSB.nodup, bare_rep w tb⟩, hBS⟩
    have hDM : DictIn w N13 M markedKv := ⟨⟨_, epM, mT _ (by simp), hSM.keys, hSM.nodup, marked_rep w tm tb⟩, hMS⟩
    have hAlN : (Al, lst als.toArray ak) ∈ N13 := mT _ (by simp)
    have hparts : Paired (PartOf N13) [Value.ref T1, .ref T2, .ref T3, .ref T4, .ref T5, .ref T6, .ref T7] (partsOf B M) :=
      .cons ⟨T1, a1, b1, rfl, mT _ (by simp)⟩ (.cons ⟨T2, a2, b2, rfl, mT _ (by simp)⟩ (.cons ⟨T3, a3, b3, rfl, mT _ (by simp)⟩ (.cons ⟨T4, a4, b4, rfl, mT _ (by simp)⟩ (.cons ⟨T5, a5, b5, rfl, mT _ (by simp)⟩ (.cons ⟨T6, a6, b6, rfl, mT _ (by simp)⟩ (.cons ⟨T7, a7, b7, rfl, mT _ (by simp)⟩ .nil))))))
    clear mT hN13
    refine wpAny_execs_cons ?_
    with_reducible refine assignCE (c := s.heap.objs.size + 1 + 1 + 1) X13 ?_ ?_ ?_ ?_ ?_
    · rfl
    · rfl
    · rfl
    · rfl
    with_reducible refine Ex.step X13.ex (powers_comp (tn := t) (parts := partsOf B M) (kv := kvOf B) (xs := xs) (n := n) (r.deeper _).le X13.ex ?_ mP hparts ?_ ?_ hAlN has hxl ?_ hn ?_) ?_
    · rfl
    · show 7 ≤ 100
      omega
    · rfl
    · rfl
    · intro q hq
      simp only [partsOf, List.mem_cons, List.mem_nil_iff, or_false] at hq
      rcases hq with rfl | rfl | rfl | rfl | rfl | rfl | rfl
      iterate 3 (simpa [kvOf] using hDB)
      iterate 4 (simpa [kvOf, hMB] using hDM)
    rintro v s14 ⟨D, ys, k, rfl, hDf, hDg, hpow⟩ k14 X14
    rw [vals_parts hMB] at hpow
    obtain ⟨Z, hZ, hpz⟩ := powObjs hpow
    refine ⟨_, (X14.adds fun p hp => (hZ p hp).1).add hDg, fun p hp => ?_, fun s15 X15 => ?_⟩
    · rcases List.mem_cons.mp hp with rfl | hp
      · exact .inr (.inl hDf)
      · rcases List.mem_append.mp hp with hp | hp
        · exact .inr (.inr (hZ p hp).2)
        · exact .inl hp
    refine wpAny_execs_cons ?_
    with_reducible refine wpAny_Return_some (wpAny_BinOp ?_)
    refine Ex.step X15.ex (mkList (R := fun vs => IntsAre vs [0, 0]) rfl (spliced2 (wpAny_Constant_int (wpAny_Constant_int ⟨.cons _ _ (.cons _ _ .nil), (by decide : 2 ≤ 1000), keeps_tok _ _⟩)))) fun v s16 hv k16 X16 => ?_
    obtain ⟨D0, zs, kz, rfl, hD0f, hD0g, hz⟩ := hv
    refine Ex.step (X16.add hD0g) (weigh_comp (qs := qsOf xs n) (ys := ys) (yk := k) (n := n) (tn := t) (r.deeper _).hh (X16.root.add hD0g) rfl ?_ ?_ ?_ ?_ rfl hn ⟨_, _, _, rfl⟩) fun v s17 hv k17 X17 => ?_
    · exact List.mem_cons_of_mem _ List.mem_cons_self
    · exact hpz.mono fun a b hab => hab.sub fun p hp => by simp [hp]
    · show 7 ≤ 100
      omega
    · intro q hq
      simp only [qsOf, List.mem_cons, List.mem_nil_iff, or_false] at hq
      rcases hq with rfl | rfl | rfl | rfl | rfl | rfl | rfl <;> exact ⟨by first | exact (by decide : Builtin.Int.intBits 1 ≤ 64) | exact (by decide : Builtin.Int.intBits (-1) ≤ 64), powOf_length _ _⟩
    · obtain ⟨D1, us, ku, rfl, hD1f, hD1g, hu⟩ := hv
      have hl1 : zs.length = 2 := ints_length hz
      have hl2 : us.length = 6 * n + 1 := by rw [ints_length hu]; simp [iv]
      refine Ex.step X17 (addL (X17.news _ List.mem_cons_self) hD1g (by rw [hl1, hl2, sizeLine_eq]; omega)) fun v s18 hv k18 X18 => ?_
      obtain ⟨D2, rs, kr, rfl, _, hD2g, rfl⟩ := hv
      exact ⟨_, rfl, ⟨D2, rfl, _, kr, hD2g, hz.append hu⟩, keeps_trans X15.keep X18.keep⟩
end
end Mine

namespace Mine

/-! ## set(list of different strs) -/
abbrev inTake (xs : List Str) (i : Nat) : Str → Bool := fun k => decide (k ∈ xs.take i)
theorem take_next {xs : List Str} {i : Nat} {x : Str} (h : xs[i]? = some x) : xs.take (i + 1) = xs.take i ++ [x] := by rw [List.take_add_one, h]; rfl
theorem not_in_take {xs : List Str} (hn : xs.Nodup) {i : Nat} {x : Str} (h : xs[i]? = some x) : x ∉ xs.take i := by
  have hs : (xs.take (i + 1)).Nodup := (List.take_sublist _ _).nodup hn
  rw [take_next h, List.nodup_append] at hs
  exact fun hx => hs.2.2 x hx x (by simp) rfl

section
variable {prog : Program} {w : World} {A : Around} {R : Result → Shared → Prop} {I : Addr} {fp wr : List Addr} {G : Array GenState → Array GenState → Prop} {P : Nat → Value → Prop} {St : Nat → Shared → Prop}

theorem setLoop {xs : List Str} (hn : xs.Nodup) (W : WalksS prog w A.in1 I fp wr G xs.length P St) (S : Addr) (hSf : S ∉ fp) (hP : ∀ i v, P i v → ∃ x t, v = .str x t ∧ xs[i]? = some x) (hb : xs.length + 1 < scanBound) :
    ∀ (k i : Nat) (s : Shared), xs.length - i = k → i ≤ xs.length → St i s → s.heap.SetOf (strKind prog w) S (inTake xs i) i →
      (∀ s', Moved (S :: wr) G s s' → s'.heap.SetOf (strKind prog w) S (inTake xs xs.length) xs.length → R (.ok (.ret .none)) s') →
      codeAny (model prog w) A (.builtin "set.update.loop" ⟨[.ref S, .ref I], []⟩) R s := by
  have hSw : S ∉ wr := fun h => hSf (W.sub _ h)
  have hsub : ∀ b ∈ wr, b ∈ S :: wr := fun b hb => List.mem_cons_of_mem _ hb
  have keepS : ∀ {s s' : Shared} {f : Str → Bool} {n : Nat}, Moved wr G s s' → s.heap.SetOf (strKind prog w) S f n → s'.heap.SetOf (strKind prog w) S f n := by
    rintro s s' f n hm ⟨o, es, ep, t, ho, rest⟩
    exact ⟨o, es, ep, t, hm.heap S _ hSw ho, rest⟩
  intro k
  induction k with
  | zero =>
    intro i s hk hi hst hS hR
    have hin : i = xs.length := by omega
    subst hin
    refine codeAny_builtin PyProof.Rows.F.entry_set_update_loop ?_
    rw [Around.under_plainId PyProof.Rows.F.plain_set_update_loop _]
    show wpAny _ A.in1 (pyNext (.ref I) >>= _) _ _ s
    refine wpAny_bind (W.done s _ _ hst fun s' hm => ?_)
    show wpAny _ A.in1 (ret Value.none) _ _ s'
    exact wpAny_pure (hR s' (hm.mono hsub) (keepS hm hS))
  | succ k ih =>
    intro i s hk hi hst hS hR
    have hlt : i < xs.length := by omega
    refine codeAny_builtin PyProof.Rows.F.entry_set_update_loop ?_
    rw [Around.under_plainId PyProof.Rows.F.plain_set_update_loop _]
    show wpAny _ A.in1 (pyNext (.ref I) >>= _) _ _ s
    refine wpAny_bind (W.item i s _ _ hlt hst fun v s' hv hst' hm => ?_)
    obtain ⟨x, t, rfl, hx⟩ := hP i v hv
    have hS' := keepS hm hS
    show wpAny _ A.in1 (holding [Value.str x t] (setAdd S (.str x t)) >>= _) _ _ s'
    refine wpAny_bind (wpAny_holding ?_)
    unfold setAdd
    refine wpAny_holding ?_
    refine wpAny_bind ((strKind prog w).pyHash (k := x) (strKind_is _ _ _ _) ?_)
    refine wpAny_setAddHashed_of (knd := strKind prog w) (s := { s' with toks := s'.toks + 1 }) (strKind_is _ _ _ _) rfl hS' (by omega) fun h' hsb hS2 => ?_
    have hni := not_in_take hn hx
    have hSi : h'.SetOf (strKind prog w) S (inTake xs (i + 1)) (i + 1) := SetOf_congr hS2 (fun k' => by simp [inTake, take_next hx, Bool.decide_or]) (by simp [inTake, hni])
    refine wpAny_pure ⟨plainId_quiet PyProof.Rows.F.plain_set_update_loop _, ih (i + 1) _ (by omega) hlt (W.frame _ s' _ _ hst' (Nat.le_succ _) fun b hb o e => ?_) hSi fun s'' hm'' hS'' => ?_⟩
    · rw [hsb.2 b (fun h : b = S => hSf (by rw [← h]; exact hb))]; exact e
    · refine hR s'' (Moved.trans W.gtrans ((hm.mono hsub).then_heap (Nat.le_succ _) fun b o hb e => ?_) hm'') hS''
      rw [hsb.2 b (fun h : b = S => hb (by rw [h]; exact List.mem_cons_self))]; exact e
end

section
variable {prog : Program} {w : World} {A : Around} {s : Shared}
set_option maxHeartbeats 3200000 in
theorem setOfStrs {l : Addr} {vs : List Value} {lk : Nat} {xs : List Str} (hh : A.handled = none) (hg : s.heap.get? l = some (lst vs.toArray lk)) (hi : StrsAre vs xs) (hn : xs.Nodup) (hb : xs.length ≤ 1000) :
    wpAny (model prog w) A (call (.type "set") [.ref l]) (fun v s' => (∃ S, v = .ref S ∧ s'.heap.SetOf (strKind prog w) S (inTake xs xs.length) xs.length) ∧ Keeps s s') (fun _ _ => False) s := by
  have hl := isList_lst hg
  have hsz : vs.length = xs.length := strs_length hi
  obtain ⟨c, tl, hmro⟩ := F.called_set.mro
  have hmade := F.called_set.made
  have hsub := F.called_set.sub
  refine wpAny_call (codeAny_of_tree ?_)
  show wpAny _ _ (callAny (.type "set") _) _ _ _
  refine wpAny_pure ⟨Code.quiet_builtin _ (by decide +kernel), codeAny_builtin PySem.F.entry_type_call ?_⟩
  rw [Around.under_plain (weight_type_call_type "set" [.ref l] []) rfl]
  have h1 := F.called_set.notType
  have h2 := F.called_set.canCreate
  have hct := F.typeCall_set_1 (.ref l)
  repeat (any_goals (first | assumption | wp_step))
  refine codeAny_mono (code_set_new_1 (.ref l) (E := fun _ _ => False) (Q₁ := fun obj s₁ => ∃ led : Bool, obj = .ref s.heap.objs.size ∧ s₁ = { s with heap := s.heap.push { cls := .type "set", dict := none, data := .set #[] 0 (.fresh 0 0 led) } }) fun led => ⟨led, rfl, rfl⟩) fun r s₁ hr => ?_
  cases r with
  | error e => exact hr
  | ok fl =>
    cases fl with
    | ret obj =>
      obtain ⟨led, rfl, rfl⟩ := hr
      have hS : (s.heap.push { cls := .type "set", dict := none, data := .set #[] 0 (.fresh 0 0 led) }).get? s.heap.objs.size = some { cls := .type "set", dict := none, data := .set #[] 0 (.fresh 0 0 led) } := Heap.get?_push_size _ rfl
      have hT : Shared.TypeIs { s with heap := s.heap.push { cls := .type "set", dict := none, data := .set #[] 0 (.fresh 0 0 led) } } (.ref s.heap.objs.size) "set" := ⟨_, hS, rfl⟩
      have hli := F.called_set.init.lookup
      have hbi := F.called_set.init.bind (.ref s.heap.objs.size)
      repeat (any_goals (first | assumption | wp_step))
      refine codeAny_mono (codeAny_call_builtin (R := wants (fun r s₂ => r = .none ∧ ∃ h' tk, s₂ = { s with heap := h', toks := tk } ∧ h'.SetOf (strKind prog w) s.heap.objs.size (inTake xs xs.length) xs.length ∧
          (∀ b o, b < s.heap.objs.size → s.heap.get? b = some o → h'.get? b = some o)) (fun _ _ => False)) F.called_set.init.plain PySem.F.entry_set_init (check_set_init_1 hT ?_)) fun r₂ s₂ hr₂ => ?_
      · have hol' : (s.heap.push { cls := .type "set", dict := none, data := .set #[] 0 (.fresh 0 0 led) }).get? l = some (lst vs.toArray lk) := Heap.get?_push_of_some _ hg
        have hsls := F.sub_list_set
        have hslf := F.sub_list_frozenset
        have hne : (Value.type "list" == Value.type "dict") = false := by decide
        have hl1 : (s.heap.push { cls := .type "set", dict := none, data := .set #[] 0 (.fresh 0 0 led) }).IsList l vs.toArray := isList_lst hol'
        unfold Builtin.«set.__init__» noKeywords Builtin.Frozenset.updateFrom
        generalize hPI : pyIter = PI
        wp_walk
        subst hPI
        refine wpAny_pyIter_list hl1 ?_
        refine wpAny_bind (wpAny_runValue ?_)
        have hlS : l < s.heap.objs.size := Heap.lt_size hg
        have hh3 : A.in1.in1.in1.handled = none := by simp [hh]
        have hneI : l ≠ (s.heap.push { cls := .type "set", dict := none, data := .set #[] 0 (.fresh 0 0 led) }).objs.size := by
          rw [Heap.size_push]; exact Nat.ne_of_lt (Nat.lt_succ_of_lt hlS)
        have hSf : s.heap.objs.size ∉ [(s.heap.push { cls := .type "set", dict := none, data := .set #[] 0 (.fresh 0 0 led) }).objs.size, l] := by
          rw [Heap.size_push]; simp only [List.mem_cons, List.not_mem_nil, or_false, not_or]
          exact ⟨Nat.ne_of_lt (Nat.lt_succ_self _), Nat.ne_of_gt hlS⟩
        have W := (Walks.list (prog := prog) (w := w) hh3 _ l hneI vs.toArray).toS
        rw [show vs.toArray.size = xs.length by simpa using hsz] at W
        refine setLoop hn W s.heap.objs.size hSf (fun i v hv => strs_at hi i v (by simpa using hv)) (by unfold scanBound; omega) (xs.length - 0) 0 _ (by omega) (Nat.zero_le _)
          ⟨⟨_, Heap.get?_push_size _ rfl, rfl, rfl⟩, (hl1.push _)⟩ ?hS0 ?hR
        case hS0 =>
          have hget : ((s.heap.push { cls := .type "set", dict := none, data := .set #[] 0 (.fresh 0 0 led) }).push { cls := .type "list_iterator", data := .fields #[.ref l, .int 0 0] }).get? s.heap.objs.size
              = some { cls := .type "set", dict := none, data := .set #[] 0 (.fresh 0 0 led) } := Heap.get?_push_of_some _ hS
          exact SetOf_congr ((setObjOf_fresh (knd := strKind prog w) led).setOf hget (by unfold scanBound; omega)) (fun _ => by simp [inTake]) rfl
        case hR =>
          intro s' hm hS'
          obtain ⟨h', g', d', tk', os'⟩ := s'
          have eg : g' = s.gens := hm.gens
          have ed : d' = s.drawn := hm.drawn
          have eo : os' = s.os := hm.os
          subst eg; subst ed; subst eo
          show wpAny _ _ _ _ _ _
          refine wpAny_pure ?_
          show wpAny _ _ (ret Value.none) _ _ _
          refine wpAny_pure ⟨rfl, h', tk', rfl, hS', fun b o hb e => ?_⟩
          have hb1 : b ≠ s.heap.objs.size := Nat.ne_of_lt hb
          have hb2 : b ≠ (s.heap.push { cls := .type "set", dict := none, data := .set #[] 0 (.fresh 0 0 led) }).objs.size := by
            rw [Heap.size_push]; exact Nat.ne_of_lt (Nat.lt_succ_of_lt hb)
          exact hm.heap b o (by simp only [List.mem_cons, List.not_mem_nil, or_false, not_or]; exact ⟨hb1, hb2⟩) (Heap.get?_push_of_some _ (Heap.get?_push_of_some _ e))
      · cases r₂ with
        | error e => exact hr₂
        | ok fl₂ =>
          cases fl₂ with
          | ret r =>
            obtain ⟨rfl, h', tk, rfl, hS', hk'⟩ := hr₂
            repeat (any_goals (first | assumption | wp_step))
            exact ⟨⟨_, rfl, hS'⟩, ⟨h', tk, rfl, fun b o e => hk' b o (Heap.lt_size e) e⟩⟩
          | _ => exact hr₂.elim
    | _ => exact hr.elim

/-- len(set(e)), e giving a list of different strs -/
theorem lenSet {S : Addr} {f : Str → Bool} {n : Nat} (hS : s.heap.SetOf (strKind prog w) S f n) (hn : n ≤ 1000) :
    wpAny (model prog w) A (call (.builtin "len") [.ref S]) (fun v s' => (∃ t, v = .int (n : Int) t) ∧ Keeps s s') (fun _ _ => False) s := by
  obtain ⟨o, es, ep, t, ho, hex, hd, _, _, _, hf, hsz⟩ := hS
  refine call_len_set ho hex hd hf (by omega) ⟨⟨_, by rw [hsz]⟩, keeps_tok _ _⟩
end
end Mine

namespace Mine

/-! ## [x + y for x in .. for y in ..] -/
abbrev twoE (elt : Expr) (x y : Str) (px py : Pos) (i1 i2 : Expr) (scope : Scope) (pos : Pos) : Expr := .ListComp elt [⟨.Name x px, i1, [], 0⟩, ⟨.Name y py, i2, [], 0⟩] scope pos

theorem turnIn (elt : Expr) (x y : Str) (px py : Pos) (i1 i2 : Expr) (scope : Scope) (pos : Pos) (it acc : Value) (env : Env) :
    compTurn (twoE elt x y px py i1 i2 scope pos) 1 it acc env = (do
      standAt i2.pos
      match ← pyNext it with
      | none => pure (.done .next)
      | some v =>
        letOwnedTupleGo (.Name y py) it v
        assign (.Name y py) env v
        let mut ok := true
        for c in ([] : List Expr) do
          if ok then ok ← isTrue c env (eval c env)
        if ok then
          (do let _ ← call (.builtin "list.append") [acc, ← eval elt env])
        again (.compLoop (twoE elt x y px py i1 i2 scope pos) 1 it acc env)) := by rfl
theorem turnOut (elt : Expr) (x y : Str) (px py : Pos) (i1 i2 : Expr) (scope : Scope) (pos : Pos) (it acc : Value) (env : Env) :
    compTurn (twoE elt x y px py i1 i2 scope pos) 0 it acc env = (standAt i1.pos >>= fun _ => pyNext it >>= fun r => match r with
      | none => pure (.done .next)
      | some v => letOwnedTupleGo (.Name x px) it v >>= fun _ => assign (.Name x px) env v >>= fun _ =>
        eval i2 env >>= fun z => standAt i2.pos >>= fun _ => foldedSetIterable i2 env z >>= fun z => holding [z] (pyIter z) >>= fun it2 =>
          runOwn (.compStart (twoE elt x y px py i1 i2 scope pos) 1 it2 acc env) env >>= fun _ => again (.compLoop (twoE elt x y px py i1 i2 scope pos) 0 it acc env)) := by rfl

section
variable {prog : Program} {w : World} {A : Around} {E : Value → Shared → Prop} {s : Shared} {R : Result → Shared → Prop}

theorem startIn {elt : Expr} {x y : Str} {px py : Pos} {i1 i2 : Expr} {scope : Scope} {pos : Pos} {it acc : Value} {env : Env}
    (h0 : codeAny (model prog w) A (.compLoop (twoE elt x y px py i1 i2 scope pos) 1 it acc env) R s)
    (h : wpAny (model prog w) A (pyIter it) (fun it' s' => codeAny (model prog w) A (.compLoop (twoE elt x y px py i1 i2 scope pos) 1 it' acc env) R s') (notedBy (model prog w) A env fun x s' => R (.error x) s') s) :
    codeAny (model prog w) A (.compStart (twoE elt x y px py i1 i2 scope pos) 1 it acc env) R s := by
  refine codeAny_of_tree ?_
  show wpAny _ _ ((compStart (twoE elt x y px py i1 i2 scope pos) 1 it acc env).onRaise (fun x => do noteFrame x env; standAt theWindowsPlace)) _ _ s
  refine wpAny_notedAt ?_
  unfold compStart
  show wpAny _ _ (ask >>= _) _ _ s
  refine wpAny_bind (wpAny_askSetting (wpAny_ite ?_))
  split
  · first
      | exact wpAny_bind (wpAny_pure (wpAny_pure (And.intro rfl h0)))
      | exact wpAny_pure (And.intro rfl h0)
  · first
      | exact wpAny_bind (wpAny_rule (wpAny_bind (wpAny_standAt (wpAny_bind (wpAny_mono h (fun it' s' h' => wpAny_pure (And.intro rfl h')) fun _ _ x => x)))))
      | (refine wpAny_bind (wpAny_rule ?_); show wpAny _ _ (standAt i2.pos >>= _) _ _ s; exact wpAny_bind (wpAny_standAt (wpAny_bind (wpAny_mono h (fun it' s' h' => wpAny_pure (And.intro rfl h')) fun _ _ x => x))))

/-- what stands while the block runs: the list that grows, the block's names -/
structure Grown (D C : Addr) (zs : List Str) (m : Str → Option Value) (h : Heap) : Prop where
  list : ∃ vs k, h.get? D = some (lst (vs : List Value).toArray k) ∧ StrsAre vs zs
  ns : h.Ns C m

theorem Grown.at {D C : Addr} {zs : List Str} {m : Str → Option Value} {h h' : Heap} (g : Grown D C zs m h) (k : ∀ b o, b = D ∨ b = C → h.get? b = some o → h'.get? b = some o) : Grown D C zs m h' :=
  ⟨let ⟨vs, n, e, i⟩ := g.list; ⟨vs, n, k _ _ (.inl rfl) e, i⟩, g.ns.at' fun o e => k _ _ (.inr rfl) e⟩

theorem strs_snoc {vs : List Value} {zs : List Str} {z : Str} {t : Tok} (h : StrsAre vs zs) : StrsAre (vs ++ [.str z t]) (zs ++ [z]) := StrsAre.append' h (.cons z t .nil)

theorem inner {elt : Expr} {x y : Str} {px py : Pos} {i1 i2 : Expr} {scope : Scope} {pos : Pos} {cenv : Env} {D C Al : Addr} {als : List Value} {ak : Nat} {al pre : List Str} {a : Str} {m : Str → Option Value} (hh : A.handled = none)
    (hC : cenv.locals = C) (hk : cenv.scope.kind = .function) (hy : cenv.kindOf y = some .local) (hxy : x ≠ y)
    (helt : ∀ s₂ mC b ta tb, mC x = some (.str a ta) → mC y = some (.str b tb) → s₂.heap.Ns C mC → b ∈ al → (∀ c o, c ≠ D → c ≠ C → s.heap.get? c = some o → s₂.heap.get? c = some o) → s.toks ≤ s₂.toks → wpAny (model prog w) A (eval elt cenv) (fun v s₃ => (∃ t, v = .str (a ++ b) t) ∧ Keeps s₂ s₃) (fun _ _ => False) s₂)
    (hal : s.heap.get? Al = some (lst als.toArray ak)) (has : StrsAre als al) (hDC : D ≠ C) (hAD : Al ≠ D) (hAC : Al ≠ C)
    (hg : Grown D C pre m s.heap) (hx : ∃ ta, m x = some (.str a ta)) (hsz : pre.length + al.length ≤ 100000)
    (hR : ∀ s' m', (∃ h' tk, s' = { s with heap := h', toks := tk } ∧ s.toks ≤ tk ∧ ∀ b o, b ≠ D → b ≠ C → s.heap.get? b = some o → h'.get? b = some o) → Grown D C (pre ++ al.map (a ++ ·)) m' s'.heap → R (.ok .next) s') :
    wpAny (model prog w) A (holding [Value.ref Al] (pyIter (.ref Al))) (fun it s₁ => wpAny (model prog w) A (runOwn (.compStart (twoE elt x y px py i1 i2 scope pos) 1 it (.ref D) cenv) cenv) (fun f s' => f = .next ∧ R (.ok f) s') (fun _ _ => False) s₁) (fun _ _ => False) s := by
  refine (wpAny_holding (wpAny_pyIter_list (isList_lst hal) ?_))
  have hJn : s.heap.get? s.heap.objs.size = none := fresh_at (keeps_refl s) (Nat.le_refl _)
  generalize hH : s.heap.push { cls := .type "list_iterator", data := .fields #[.ref Al, .int 0 0] } = H
  have kH : ∀ b o, s.heap.get? b = some o → H.get? b = some o := fun b o e => by rw [← hH]; exact Heap.get?_push_of_some _ e
  have hIt : H.IsListIter s.heap.objs.size Al 0 := by rw [← hH]; exact ⟨_, Heap.get?_push_size _ rfl, rfl, rfl⟩
  generalize s.heap.objs.size = J at hJn hIt ⊢
  clear hH
  obtain ⟨vs0, k0, hD0, hz0⟩ := hg.list
  have hJD : J ≠ D := (ne_of_get hD0 hJn).symm
  have hJC : J ≠ C := by obtain ⟨o, _, _, ho, _⟩ := hg.ns; exact (ne_of_get ho hJn).symm
  have hJA : Al ≠ J := ne_of_get hal hJn
  have hal' := kH _ _ hal
  have W := Walks.list (prog := prog) (w := w) hh J Al hJA als.toArray
  have hlen : als.length = al.length := strs_length has
  have loop : codeAny (model prog w) A (.compLoop (twoE elt x y px py i1 i2 scope pos) 1 (.ref J) (.ref D) cenv) (fun r s' => match r with | .ok f => f = .next ∧ R (.ok f) s' | .error e => cameBackBy (model prog w) A cenv (fun _ _ => False) e s') { s with heap := H } := by
    refine codeAny_loop rfl (fun k s' => ∃ h' tk j m', s' = { s with heap := h', toks := tk } ∧ s.toks ≤ tk ∧ (h'.IsListIter J Al j ∧ h'.IsList Al als.toArray) ∧ Grown D C (pre ++ (al.take j).map (a ++ ·)) m' h' ∧ (∃ ta, m' x = some (.str a ta)) ∧ j ≤ al.length ∧ k = al.length + 1 - j ∧
      ∀ b o, b ≠ D → b ≠ C → b ≠ J → H.get? b = some o → h'.get? b = some o) ?_ (al.length + 1)
      ⟨H, s.toks, 0, m, rfl, Nat.le_refl _, ⟨hIt, isList_lst hal'⟩, by simpa using hg.at fun b o _ e => kH b o e, hx, Nat.zero_le _, rfl, fun _ _ _ _ _ e => e⟩
    rintro k s' ⟨h', tk, j, m', rfl, htk, st, g, ⟨ta, hxa⟩, hj, rfl, keep⟩
    show wpAny _ A ((compTurn (twoE elt x y px py i1 i2 scope pos) 1 (.ref J) (.ref D) cenv).onRaise (fun x => do noteFrame x cenv; theTreesLotGoes x)) _ _ _
    refine wpAny_noted ?_
    rw [turnIn]
    refine wpAny_bind (wpAny_standAt (wpAny_bind ?_))
    by_cases hlt : j < al.length
    · refine wpAny_with_toks (n := s.toks) htk (W.item j _ _ _ (by simp; omega) st fun v h₁ tk₁ hv st₁ k₁ htk₁ => ?_)
      obtain ⟨b, tb, rfl, hb⟩ := strs_at has j v (by simpa using hv)
      refine wpAny_bind (wpAny_of_eq (show letOwnedTupleGo (.Name y py) (.ref J) (.str b tb) = pure () from rfl) ?_)
      have k₁' : ∀ c o, c ≠ J → h'.get? c = some o → h₁.get? c = some o := fun c o hc e => k₁ c o (by simpa using hc) e
      have g₁ : Grown D C (pre ++ (al.take j).map (a ++ ·)) m' h₁ := g.at fun c o hc e => k₁' c o (by rcases hc with rfl | rfl; exact hJD.symm; exact hJC.symm) e
      refine wpAny_bind (wpAny_assign_Name (wpAny_storeName_local hy (hC ▸ g₁.ns) (fun h₂ hn₂ hs₂ => ?_) (by rw [hk]; rfl)))
      rw [hC] at hn₂ hs₂
      dsimp only at hn₂ hs₂ ⊢
      refine wpAny_bind (tests_nil (cenv := cenv) ?_)
      have hxa₂ : (fun z => if z = y then some (Value.str b tb) else m' z) x = some (.str a ta) := by simp [hxy, hxa]
      have hbm : b ∈ al := List.mem_of_getElem? hb
      refine wpAny_bind (wpAny_bind (wpAny_any (wpAny_toks_of (n := s.toks) (Nat.le_trans htk₁ (Nat.le_succ _)) (helt _ _ b ta tb hxa₂ (by simp) hn₂ hbm (fun c o h1 h2 e => hs₂.extBut c o h2 (k₁' c o (ne_of_get e hJn) (keep c o h1 h2 (ne_of_get e hJn) (kH c o e)))) (Nat.le_trans htk₁ (Nat.le_succ _))) |> fun h => wpAny_mono h (fun _ _ x => x) (fun _ _ x => x.2)) (fun v s₃ h₃ => ?_)))
      obtain ⟨htk₃, ⟨t₃, rfl⟩, h₃, tk₃, rfl, k₃⟩ := h₃
      obtain ⟨vs, n, hDg, hz⟩ := g₁.list
      have hDg₃ : h₃.get? D = some (lst vs.toArray n) := k₃ _ _ (hs₂.extBut _ _ hDC hDg)
      have hvl : vs.length ≤ 100000 := by rw [strs_length hz]; simp; omega
      refine wpAny_bind (wpAny_list_append_plain (hsz := by rw [List.size_toArray, sizeLine_eq]; omega) ⟨n, hDg₃⟩ fun h₄ hl₄ hs₄ => ?_)
      have up : ∀ c o, c ≠ D → c ≠ C → h₁.get? c = some o → h₄.get? c = some o := fun c o h1 h2 e => hs₄.extBut c o h1 (k₃ c o (hs₂.extBut c o h2 e))
      obtain ⟨n', hDg₄⟩ := hl₄
      refine wpAny_pure (wpAny_pure ⟨rfl, al.length + 1 - (j + 1), by omega, h₄, tk₃, j + 1, _, rfl, htk₃, ⟨st₁.1.at fun o e => up _ o hJD hJC e, st₁.2.at fun o e => up _ o hAD hAC e⟩, ⟨⟨vs ++ [.str (a ++ b) t₃], n', by simpa using hDg₄, ?_⟩, (hn₂.keeps k₃).sameBut hs₄ hDC.symm⟩, ⟨ta, hxa₂⟩, hlt, rfl, fun c o h1 h2 h3 e => up c o h1 h2 (k₁' c o h3 (keep c o h1 h2 h3 e))⟩)
      rw [take_next hb, List.map_append, ← List.append_assoc]
      exact strs_snoc hz
    · have hjn : j = al.length := by omega
      subst hjn
      refine wpAny_with_toks (n := s.toks) htk (W.done _ _ _ (by simpa [hlen] using st) fun h₁ tk₁ k₁ htk₁ => wpAny_pure ⟨rfl, ?_⟩)
      have k₁' : ∀ c o, c ≠ J → h'.get? c = some o → h₁.get? c = some o := fun c o hc e => k₁ c o (by simpa using hc) e
      refine hR _ m' ⟨h₁, tk₁, rfl, htk₁, fun b o h1 h2 e => ?_⟩ ?_
      · have hbJ : b ≠ J := ne_of_get e hJn
        exact k₁' b o hbJ (keep b o h1 h2 hbJ (kH b o e))
      · rw [List.take_length] at g
        exact g.at fun c o hc e => k₁' c o (by rcases hc with rfl | rfl; exact hJD.symm; exact hJC.symm) e
  exact wpAny_runOwn (startIn loop (W.self 0 _ _ _ ⟨hIt, isList_lst hal'⟩ loop))
end
end Mine

namespace Mine

def crossed (txts al : List Str) : List Str := txts.flatMap fun a => al.map (a ++ ·)

theorem crossed_length (txts al : List Str) : (crossed txts al).length = txts.length * al.length := by
  unfold crossed
  induction txts with
  | nil => simp
  | cons b l ih => rw [List.flatMap_cons, List.length_append, ih, List.length_map, List.length_cons, Nat.succ_mul]; omega
theorem crossed_next {txts al : List Str} {j : Nat} {a : Str} (h : txts[j]? = some a) : crossed (txts.take (j + 1)) al = crossed (txts.take j) al ++ al.map (a ++ ·) := by
  rw [take_next h]; simp [crossed]
section
variable {prog : Program} {w : World} {A : Around} {E : Value → Shared → Prop} {s : Shared} {env : Env} {m cm : Str → Option Value} {N : List (Addr × Obj)}

theorem two_comp {elt : Expr} {x y : Str} {px py pos fpos : Pos} {i1 i2 : Expr} {scope : Scope} {cl : List (Str × Addr)} {use : Option (Value → Sem Unit)} {Q : Value → Shared → Prop} {T Al : Addr} {ts als : List Value} {tk ak : Nat} {txts al : List Str}
    (hh : A.handled = none) (X : Ex s env m cm N s)
    (h1 : ∀ Q : Value → Shared → Prop, Q (.ref T) s → wpAny (model prog w) A (eval i1 env) Q E s)
    (hT : (T, lst ts.toArray tk) ∈ N) (hts : StrsAre ts txts) (hA : (Al, lst als.toArray ak) ∈ N) (has : StrsAre als al) (hsz : txts.length * al.length + al.length ≤ 100000)
    (hclos : closureFor scope env = pure cl) (hcell : ∀ y ∈ scope.names, y.2 ≠ .cell) (hkind : scope.kind = .function)
    (hnames : ∀ y ∈ scope.names, y.2 = .local → scope.names.lookup y.1 = some .local) (hsub : ∀ n c, cl.lookup n = some c → env.cells.lookup n = some c)
    (hx : scope.names.lookup x = some .local) (hy : scope.names.lookup y = some .local) (hxy : x ≠ y)
    (h2 : ∀ C s₂ mC (Q : Value → Shared → Prop), Ex s₂ (compEnvC scope cl C env) mC cm N s₂ → Q (.ref Al) s₂ → wpAny (model prog w) A (eval i2 (compEnvC scope cl C env)) Q (fun _ _ => False) s₂)
    (helt : ∀ C s₂ mC a b ta tb, Ex s₂ (compEnvC scope cl C env) mC cm N s₂ → mC x = some (.str a ta) → mC y = some (.str b tb) → a ∈ txts → b ∈ al → wpAny (model prog w) A (eval elt (compEnvC scope cl C env)) (fun v s₃ => (∃ t, v = .str (a ++ b) t) ∧ Keeps s₂ s₃) (fun _ _ => False) s₂)
    (fin : ∀ D C ys k s', s.heap.get? D = none → s.heap.get? C = none → D ≠ C → Keeps s s' → Ex s env m cm ((D, lst (ys : List Value).toArray k) :: N) s' → (∃ mC, s'.heap.Ns C mC) → StrsAre ys (crossed txts al) → compPost (model prog w) A E use Q (.ref D) C (.ok .next) s')
    (hs : ∀ x, foldedSetIterable i1 env x = pure x := by intro _; rfl) (hs2 : ∀ C x, foldedSetIterable i2 (compEnvC scope cl C env) x = pure x := by intro _ _; rfl) :
    wpAny (model prog w) A (comprehension (twoE elt x y px py i1 i2 scope pos) scope env fpos (newList []) false (eval i1 env) use) Q E s := by
  refine wpAny_comprehension_free rfl hs hclos hkind hnames (h1 _ ?_)
  have hTl := X.news _ hT
  have hAl := X.news _ hA
  refine wpAny_pyIter_list (isList_lst hTl) ?_
  have hIn : s.heap.get? s.heap.objs.size = none := fresh_at (keeps_refl s) (Nat.le_refl _)
  generalize hH : s.heap.push { cls := .type "list_iterator", data := .fields #[.ref T, .int 0 0] } = H
  have kH : ∀ b o, s.heap.get? b = some o → H.get? b = some o := fun b o e => by rw [← hH]; exact Heap.get?_push_of_some _ e
  have hIt : H.IsListIter s.heap.objs.size T 0 := by rw [← hH]; exact ⟨_, Heap.get?_push_size _ rfl, rfl, rfl⟩
  have hHs : H.objs.size = s.heap.objs.size + 1 := by rw [← hH, Heap.size_push]
  generalize s.heap.objs.size = I at hIn hIt hHs ⊢
  clear hH
  refine wpAny_newObj_type (newCompEnv fun h₁ hns₁ ok₁ hk₁ => ?_)
  dsimp only at hns₁ ok₁ hk₁ ⊢
  generalize hH2 : H.push { cls := .type "list", dict := none, data := .seq ([] : List Value).toArray } = H2 at hns₁ ok₁ hk₁ ⊢
  have hC2 : H2.objs.size = H.objs.size + 1 := by rw [← hH2, Heap.size_push]
  have hDH : H2.get? H.objs.size = some (lst #[] 0) := by rw [← hH2]; exact Heap.get?_push_size _ rfl
  have kH2 : ∀ b o, H.get? b = some o → H2.get? b = some o := fun b o e => by rw [← hH2]; exact Heap.get?_push_of_some _ e
  clear hH2
  have hDn : s.heap.get? H.objs.size = none := fresh_at (s' := { s with heap := H }) ⟨H, s.toks, rfl, kH⟩ (Nat.le_refl _)
  have hCn : s.heap.get? H2.objs.size = none := fresh_at (s' := { s with heap := H2 }) ⟨H2, s.toks, rfl, fun b o e => kH2 b o (kH b o e)⟩ (Nat.le_refl _)
  generalize H.objs.size = D at hDn hDH hC2 hHs ⊢
  generalize H2.objs.size = C at hCn hns₁ ok₁ hC2 ⊢
  have hDC : D ≠ C := by rw [hC2]; exact Nat.ne_of_lt (Nat.lt_succ_self _)
  have hID : I ≠ D := by rw [hHs]; exact Nat.ne_of_lt (Nat.lt_succ_self _)
  have hIC : I ≠ C := by rw [hC2, hHs]; exact Nat.ne_of_lt (Nat.lt_succ_of_lt (Nat.lt_succ_self _))
  have hTI : T ≠ I := ne_of_get hTl hIn
  have hTD : T ≠ D := ne_of_get hTl hDn
  have hTC : T ≠ C := ne_of_get hTl hCn
  have hAD : Al ≠ D := ne_of_get hAl hDn
  have hAC : Al ≠ C := ne_of_get hAl hCn
  have k1 : ∀ b o, s.heap.get? b = some o → h₁.get? b = some o := fun b o e => hk₁ b o (kH2 b o (kH b o e))
  have W := Walks.list (prog := prog) (w := w) hh I T hTI ts.toArray
  have hlen : ts.length = txts.length := strs_length hts
  have st0 : h₁.IsListIter I T 0 ∧ h₁.IsList T ts.toArray := ⟨hIt.at fun o e => hk₁ _ o (kH2 _ o e), isList_lst (k1 _ _ hTl)⟩
  have cenvEq : ({ scope := relabel scope env, locals := C, globals := env.globals, cells := cellsFrom (C + 1) scope.names cl, qual := env.qual, func := none, code := env.code, frame := env.frame, builtins := env.builtins } : Env) = compEnvC scope cl C env := by
    rw [cellsFrom_append, show cellsFrom (C + 1) scope.names [] = [] from ownOf_nil hcell C]; rfl
  have inner' : ∀ {h : Heap} {tk : Nat} {mC : Str → Option Value}, s.toks ≤ tk → (∀ b o, s.heap.get? b = some o → h.get? b = some o) → h.Ns C mC → Ex { s with heap := h, toks := tk } (compEnvC scope cl C env) mC cm N { s with heap := h, toks := tk } := by
    intro h tk mC ht hk hn
    exact ⟨keeps_refl _, hn, fun n c hc => (X.cell n c (hsub n c hc)).keeps hk, fun p hp => hk _ _ (X.news p hp), X.base.keeps hk, Nat.lt_of_lt_of_le X.tok ht⟩
  have loop : codeAny (model prog w) A (.compLoop (twoE elt x y px py i1 i2 scope pos) 0 (.ref I) (.ref D) (compEnvC scope cl C env)) (compPost (model prog w) A E use Q (.ref D) C) { s with heap := h₁ } := by
    refine codeAny_loop rfl (fun k s' => ∃ h' tk j m', s' = { s with heap := h', toks := tk } ∧ s.toks ≤ tk ∧ (h'.IsListIter I T j ∧ h'.IsList T ts.toArray) ∧ Grown D C (crossed (txts.take j) al) m' h' ∧ j ≤ txts.length ∧ k = txts.length + 1 - j ∧
      ∀ b o, s.heap.get? b = some o → h'.get? b = some o) ?_ (txts.length + 1)
      ⟨h₁, s.toks, 0, _, rfl, Nat.le_refl _, st0, ⟨⟨[], 0, by simpa using hk₁ _ _ hDH, .nil⟩, hns₁⟩, Nat.zero_le _, rfl, k1⟩
    rintro k s' ⟨h', tk, j, m', rfl, htk, st, g, hj, rfl, keep⟩
    show wpAny _ A ((compTurn (twoE elt x y px py i1 i2 scope pos) 0 (.ref I) (.ref D) (compEnvC scope cl C env)).onRaise (fun x => do noteFrame x (compEnvC scope cl C env); theTreesLotGoes x)) _ _ _
    refine wpAny_noted ?_
    rw [turnOut]
    refine wpAny_bind (wpAny_standAt (wpAny_bind ?_))
    by_cases hlt : j < txts.length
    · refine wpAny_with_toks (n := s.toks) htk (W.item j _ _ _ (by simp; omega) st fun v h₂ tk₂ hv st₂ k₂ htk₂ => ?_)
      obtain ⟨a, ta, rfl, ha⟩ := strs_at hts j v (by simpa using hv)
      refine wpAny_bind (wpAny_of_eq (show letOwnedTupleGo (.Name x px) (.ref I) (.str a ta) = pure () from rfl) ?_)
      have k₂' : ∀ c o, c ≠ I → h'.get? c = some o → h₂.get? c = some o := fun c o hc e => k₂ c o (by simpa using hc) e
      have g₂ : Grown D C (crossed (txts.take j) al) m' h₂ := g.at fun c o hc e => k₂' c o (by rcases hc with rfl | rfl; exact hID.symm; exact hIC.symm) e
      have keep₂ : ∀ b o, s.heap.get? b = some o → h₂.get? b = some o := fun b o e => k₂' b o (ne_of_get e hIn) (keep b o e)
      refine wpAny_bind (wpAny_assign_Name (wpAny_storeName_local (env := compEnvC scope cl C env) (lookup_relabel_local hx) g₂.ns (fun h₃ hn₃ hs₃ => ?_) (by simp [compEnvC, relabel, hkind])))
      dsimp only at hn₃ hs₃ ⊢
      have keep₃ : ∀ b o, s.heap.get? b = some o → h₃.get? b = some o := fun b o e => hs₃.extBut b o (ne_of_get e hCn) (keep₂ b o e)
      have htk₃ : s.toks ≤ tk₂ + 1 := Nat.le_trans htk₂ (Nat.le_succ _)
      refine wpAny_bind (wpAny_any (h2 C _ _ (fun v s' => v = .ref Al ∧ s' = { s with heap := h₃, toks := tk₂ + 1 }) (inner' htk₃ keep₃ hn₃) ⟨rfl, rfl⟩) fun v s₄ h₄ => ?_)
      obtain ⟨rfl, rfl⟩ := h₄
      refine wpAny_bind (wpAny_standAt (wpAny_bind (wpAny_of_eq (hs2 C _) ?_)))
      have hlj : (crossed (txts.take j) al).length + al.length ≤ 100000 := by
        have e1 := crossed_length (txts.take j) al
        have e2 : (txts.take j).length * al.length ≤ txts.length * al.length := Nat.mul_le_mul_right _ (by simp; omega)
        omega
      have g₃ : Grown D C (crossed (txts.take j) al) (fun z => if z = x then some (.str a ta) else m' z) h₃ := ⟨let ⟨vs, n, e, i⟩ := g₂.list; ⟨vs, n, hs₃.extBut _ _ hDC e, i⟩, hn₃⟩
      have inn := inner (prog := prog) (w := w) (A := A) (s := { s with heap := h₃, toks := tk₂ + 1 }) (elt := elt) (x := x) (y := y) (px := px) (py := py) (i1 := i1) (i2 := i2) (scope := scope) (pos := pos) (cenv := compEnvC scope cl C env) (D := D) (C := C) (Al := Al) (als := als) (ak := ak) (al := al)
        (pre := crossed (txts.take j) al) (a := a) (m := fun z => if z = x then some (.str a ta) else m' z)
        (R := fun r s' => r = .ok .next ∧ ∃ h' tk m', s' = { s with heap := h', toks := tk } ∧ s.toks ≤ tk ∧ (∀ b o, b ≠ D → b ≠ C → h₃.get? b = some o → h'.get? b = some o) ∧ Grown D C (crossed (txts.take j) al ++ al.map (a ++ ·)) m' h') hh rfl hkind (lookup_relabel_local hy) hxy ?_ (keep₃ _ _ hAl) has hDC hAD hAC g₃ ⟨ta, by simp⟩ hlj ?_
      · refine wpAny_bind (wpAny_any inn fun it s₅ h₅ => wpAny_bind (wpAny_any h₅ fun f s₆ h₆ => wpAny_pure ?_))
        obtain ⟨_, _, h₆, tk₆, m₆, rfl, htk₆, hk₆, hg₆⟩ := h₆
        refine ⟨rfl, txts.length + 1 - (j + 1), by omega, h₆, tk₆, j + 1, m₆, rfl, htk₆, ⟨st₂.1.at fun o e => hk₆ _ o hID hIC (hs₃.extBut _ _ hIC e), st₂.2.at fun o e => hk₆ _ o hTD hTC (hs₃.extBut _ _ hTC e)⟩, ?_, hlt, rfl, fun b o e => hk₆ b o (ne_of_get e hDn) (ne_of_get e hCn) (keep₃ b o e)⟩
        rw [crossed_next ha]; exact hg₆
      · intro s₂ mC b ta' tb hxa hyb hn hb hk₄ htk₄
        refine helt C s₂ mC a b ta' tb ⟨keeps_refl _, hn, fun n c hc => ?_, fun p hp => ?_, ?_, Nat.lt_of_lt_of_le X.tok (Nat.le_trans htk₃ htk₄)⟩ hxa hyb (List.mem_of_getElem? ha) hb
        · exact (X.cell n c (hsub n c hc)).keeps fun b o e => hk₄ b o (ne_of_get e hDn) (ne_of_get e hCn) (keep₃ b o e)
        · exact hk₄ _ _ (ne_of_get (X.news p hp) hDn) (ne_of_get (X.news p hp) hCn) (keep₃ _ _ (X.news p hp))
        · exact X.base.keeps fun b o e => hk₄ b o (ne_of_get e hDn) (ne_of_get e hCn) (keep₃ b o e)
      · rintro s₅ m₅ ⟨h₅, tk₅, rfl, htk₅, hk₅⟩ hg₅
        exact ⟨rfl, h₅, tk₅, m₅, rfl, Nat.le_trans htk₃ htk₅, hk₅, hg₅⟩
    · have hjn : j = txts.length := by omega
      subst hjn
      refine wpAny_with_toks (n := s.toks) htk (W.done _ _ _ (by simpa [hlen] using st) fun h₂ tk₂ k₂ htk₂ => wpAny_pure ?_)
      have k₂' : ∀ c o, c ≠ I → h'.get? c = some o → h₂.get? c = some o := fun c o hc e => k₂ c o (by simpa using hc) e
      have keep₂ : ∀ b o, s.heap.get? b = some o → h₂.get? b = some o := fun b o e => k₂' b o (ne_of_get e hIn) (keep b o e)
      have g₂ : Grown D C (crossed (txts.take txts.length) al) m' h₂ := g.at fun c o hc e => k₂' c o (by rcases hc with rfl | rfl; exact hID.symm; exact hIC.symm) e
      rw [List.take_length] at g₂
      obtain ⟨vs, n, hDg, hz⟩ := g₂.list
      have kk : Keeps s { s with heap := h₂, toks := tk₂ } := ⟨h₂, tk₂, rfl, keep₂⟩
      exact fin D C vs n _ hDn hCn hDC kk ((X.to kk (Nat.lt_of_lt_of_le X.tok htk₂)).add hDg) ⟨m', g₂.ns⟩ hz
  have fin' := codeAny_compStart_list (A := A) loop (W.self 0 _ _ _ st0 loop)
  rw [← cenvEq] at fin'
  exact fin'
end
end Mine

namespace Mine

def sgs : Str := Str.ofString "&<>\"'\n\u000d\ta;"
def sgn (v : Int) : Str := ⟨#[sgs.cps.getD (v.fmod 10).toNat 0]⟩
def astep (al : List Str) (v : Int) : List Str := al ++ [sgn v].filter (fun x => !(al.any (· == x)))
def digs (ns : List Int) : List Int := ns.take 4 ++ [0, 3, 4, 8]
def alphaOf (ns : List Int) : List Str := ((digs ns).foldl astep []).take 5

theorem sgs_len : sgs.length = 10 := by decide
theorem sgn_at (v : Int) : (seqIndex? (v.fmod 10) sgs.length).bind (sgs.cps[·]?) = some (sgs.cps.getD (v.fmod 10).toNat 0) := by
  have h0 : 0 ≤ v.fmod 10 := Int.fmod_nonneg_of_pos _ (by decide)
  have h1 : v.fmod 10 < 10 := Int.fmod_lt_of_pos _ (by decide)
  rw [sgs_len, seqIndex_of h0 h1]
  generalize v.fmod 10 = k at *
  obtain ⟨n, rfl⟩ : ∃ n : Nat, k = n := ⟨k.toNat, by omega⟩
  have hn : n < 10 := by omega
  have : ∀ i : Fin 10, (some (i : Nat)).bind (sgs.cps[·]?) = some (sgs.cps.getD (i : Nat) 0) := by decide
  simpa using this ⟨n, hn⟩
theorem sgn_range (v : Int) : (decide (v.fmod 10 < -(2 ^ 63 : Int)) || decide (v.fmod 10 ≥ 2 ^ 63)) = false := by
  have h0 : 0 ≤ v.fmod 10 := Int.fmod_nonneg_of_pos _ (by decide)
  have h1 : v.fmod 10 < 10 := Int.fmod_lt_of_pos _ (by decide)
  rw [decide_eq_false (by omega), decide_eq_false (by omega)]; rfl

theorem take_append_ints {vs : List Value} {ns : List Int} (h : IntsAre vs ns) (k : Nat) : IntsAre (vs.take k) (ns.take k) := h.take k

section
variable {prog : Program} {w : World} {A : Around} {E : Value → Shared → Prop} {s₀ s : Shared} {R : Heap} {m cm : Str → Option Value} {N : List (Addr × Obj)} {q : Str} {L a : Addr} {cd : Value}

/-- l[:k] -/
theorem sliceTo {env : Env} {value : Expr} {k : Int} {kk : Nat} {n : Nat} {p1 p pos : Pos} {l : Addr} {vs : List Value} (hk : k = n)
    (h : ∀ Q : Value → Shared → Prop, Q (.ref l) s → wpAny (model prog w) A (eval value env) Q (fun _ _ => False) s) (hl : s.heap.IsList l vs.toArray) (hsz : vs.length ≤ 1000)
    (ht : ∀ o r, letTemporaryGo value o r = pure ()) :
    wpAny (model prog w) A (eval (.Subscript value (.Slice none (some (.Constant (.int k) kk p1)) none p) pos) env) (fun v s' => Made s (fun ys => ys = vs.take n) v s' ∧ Keeps s s') (fun _ _ => False) s := by
  subst hk
  refine wpAny_Subscript_list_slice (h _ (wpAny_evalPart_none (wpAny_evalPart_some (wpAny_Constant_int ⟨l, vs.toArray, none, some (n : Int), rfl, hl, by rw [List.size_toArray, sizeLine_eq]; omega, .none, .int _ _, ?_⟩)))) ht
  refine ⟨⟨_, vs.take n, 0, rfl, ?_, ?_, rfl⟩, ?_⟩
  · exact fresh_at (keeps_refl s) (Nat.le_succ _)
  · rw [slicePick_upto' vs.toArray n]
    have := Heap.get?_push_size (s.heap.push { cls := .type "slice", data := .fields #[.none, .int (n : Int) s.toks, .none] }) (o := { cls := .type "list", data := .seq (vs.toArray.toList.take n).toArray }) rfl
    rwa [Heap.size_push] at this
  · exact ⟨_, _, rfl, fun b o e => Heap.get?_push_of_some _ (Heap.get?_push_of_some _ e)⟩

theorem fresh_sign {sv : Str} {t : Tok} {D : Addr} {ds : List Value} {dk : Nat} {al : List Str} (hh : A.handled = none) (X : Ex s (envOf' 9 q L a cd) m cm N s) (hs : m "sign" = some (.str sv t)) (hD : cm "alphabet" = some (.ref D)) (hDN : (D, lst ds.toArray dk) ∈ N) (hds : StrsAre ds al) {l r : Expr} {o : Operator} {p : Pos}
    (he : valueOf (nth 1 (forBody (nth 1 (bodyOf (theDef 9))))) = .BinOp l o r p) :
    wpAny (model prog w) A (eval r (envOf' 9 q L a cd)) (fun v s' => Made s (fun ys => StrsAre ys ([sv].filter fun x => !(al.any (· == x)))) v s' ∧ Keeps s s') (fun _ _ => False) s := by
  injection he with _ _ he
  subst he
  refine map_local X (fun v => match v with | .str x _ => !(al.any (· == x)) | _ => true) (fun v y => v = y) _ rfl (by decide) rfl (by decide) (sub_of (.cons rfl .nil)) rfl ?_
  refine X.step (mkList (R := fun vs => vs = [.str sv t]) rfl (spliced1 (X.local_ hs ⟨rfl, (by decide : 1 ≤ 1000), keeps_refl _⟩))) fun v s₁ hv k₁ X₁ => ?_
  obtain ⟨D', ys, k', rfl, hf, hg, rfl⟩ := hv
  refine ⟨_, _, N, Src.list hh (isList_lst hg), (by show 1 ≤ sizeLine; rw [sizeLine_eq]; omega), X₁, ?_, ?_, ?_⟩
  · intro C i v s₂ mC hi hP hm X₂
    obtain ⟨x, t', rfl, _⟩ := strs_at (.cons sv t .nil) i v hP
    refine tests_one (wpAny_isTrue_Compare1 (X₂.local_ hm (X₂.cell_ hD (notin_list_strs (isList_lst (X₂.news _ hDN)) hds (wpAny_truthy_bool ⟨rfl, keeps_refl _⟩)))))
  · intro C i v s₂ mC hi hP _ hm X₂
    exact X₂.local_ hm ⟨rfl, keeps_refl _⟩
  · intro vs ys h7 h8 h9
    have hvs := same_vals h7 h8
    subst hvs
    have := strs_of_strs (f := id) (strs_filter (q := fun x => !(al.any (· == x))) (fun x t => rfl) (StrsAre.cons sv t .nil)) h9 (fun x t y hy => ⟨t, hy.symm⟩)
    simpa using this
end
end Mine

namespace Mine

theorem foldl_take_succ {al : List Str} {ds : List Int} {i : Nat} {v : Int} (h : ds[i]? = some v) : (ds.take (i + 1)).foldl astep al = astep ((ds.take i).foldl astep al) v := by
  rw [List.take_add_one, h]; simp
theorem astep_len (al : List Str) (v : Int) : (astep al v).length ≤ al.length + 1 := by
  unfold astep
  rw [List.length_append]
  have := List.length_filter_le (fun x => !(al.any (· == x))) [sgn v]
  simp only [List.length_cons, List.length_nil] at this
  omega
theorem fold_len : ∀ (ds : List Int) (al : List Str), (ds.foldl astep al).length ≤ al.length + ds.length
  | [], _ => Nat.le_refl _
  | d :: r, al => by
    have h1 := fold_len r (astep al d)
    have h2 := astep_len al d
    simp only [List.foldl_cons, List.length_cons]; omega

section
variable {prog : Program} {w : World} {A : Around} {E : Value → Shared → Prop} {s₀ s : Shared} {R : Heap} {m cm : Str → Option Value} {N : List (Addr × Obj)} {q : Str} {L a : Addr} {cd : Value}

theorem digits_eval {S : Addr} {so : Obj} {vs : List Value} {sn : Nat} {ns : List Int} (X : Ex s (envOf' 9 q L a cd) m cm N s) (hS : m "script" = some (.ref S)) (hSN : (S, so) ∈ N) (hc : so.cls = .type "list") (hd : so.data = .seq vs.toArray sn) (hns : IntsAre vs ns) (hl : ns.length ≤ 63)
    {e : Expr} (he : ∃ t b o p, nth 1 (bodyOf (theDef 9)) = .For t e b o p) :
    wpAny (model prog w) A (eval e (envOf' 9 q L a cd)) (fun v s' => Made s (fun ys => IntsAre ys (digs ns)) v s' ∧ Keeps s s') (fun _ _ => False) s := by
  obtain ⟨t, b, o, p, he⟩ := he
  injection he with _ he
  subst he
  have hvl : vs.length = ns.length := ints_length hns
  refine wpAny_BinOp ?_
  refine X.step (sliceTo (n := 4) rfl (fun Q hQ => X.local_ hS hQ) ⟨so, X.news _ hSN, hc, sn, hd⟩ (by omega) (fun _ _ => rfl)) fun v s₁ hv k₁ X₁ => ?_
  obtain ⟨D1, ys1, n1, rfl, hf1, hg1, rfl⟩ := hv
  refine Ex.step (X₁.add hg1) (mkList (R := fun vs => IntsAre vs [0, 3, 4, 8]) rfl (Calls.spliced_cons (wpAny_Constant_int (Calls.spliced_cons (wpAny_Constant_int (Calls.spliced_cons (wpAny_Constant_int (Calls.spliced_cons (wpAny_Constant_int (Calls.spliced_nil ⟨?_, ?_, ?_⟩)))))))))) fun v s₂ hv k₂ X₂ => ?_
  · exact .cons _ _ (.cons _ _ (.cons _ _ (.cons _ _ .nil)))
  · show 4 ≤ 1000; omega
  · exact keeps_tok _ _
  obtain ⟨D2, ys2, n2, rfl, hf2, hg2, h2⟩ := hv
  have hl2 := ints_length h2
  refine Ex.step X₂ (addL (X₂.news _ List.mem_cons_self) hg2 (by rw [hl2, sizeLine_eq]; simp; omega)) fun v s₃ hv k₃ X₃ => ?_
  obtain ⟨D3, ys3, n3, rfl, hf3, hg3, rfl⟩ := hv
  exact ⟨⟨D3, _, n3, rfl, fresh_of X₂.keep hf3, hg3, (hns.take 4).append h2⟩, X₃.keep⟩

theorem alpha_loop {S D0 : Addr} {so : Obj} {vs ds0 : List Value} {sn k0 : Nat} {ns : List Int} {Q : Flow → Shared → Prop} (hh : A.handled = none) (X : In s₀ R (envOf' 9 q L a cd) m cm N s) (hS : m "script" = some (.ref S)) (hSN : (S, so) ∈ N) (hc : so.cls = .type "list") (hd : so.data = .seq vs.toArray sn) (hns : IntsAre vs ns) (hl : ns.length ≤ 63)
    (hD : cm "alphabet" = some (.ref D0)) (hDN : (D0, lst ds0.toArray k0) ∈ N) (hds : StrsAre ds0 []) (hNI : ∀ p ∈ N, isIter p.2 = false)
    (hQ : ∀ m' cm' N' s' D ds k, In s₀ R (envOf' 9 q L a cd) m' cm' N' s' → cm' "alphabet" = some (.ref D) → (D, lst (ds : List Value).toArray k) ∈ N' → StrsAre ds ((digs ns).foldl astep []) → (∀ p ∈ N', isIter p.2 = false) → Q .next s') :
    wpAny (model prog w) A (exec (nth 1 (bodyOf (theDef 9))) (envOf' 9 q L a cd)) Q (fun _ _ => False) s := by
  refine for_src (J := fun i m' cm' N' => (∃ D ds k, cm' "alphabet" = some (.ref D) ∧ (D, lst (ds : List Value).toArray k) ∈ N' ∧ StrsAre ds (((digs ns).take i).foldl astep [])) ∧ ∀ p ∈ N', isIter p.2 = false) X rfl rfl ?_
  refine X.ex.step (digits_eval X.ex hS hSN hc hd hns hl ⟨_, _, _, _, rfl⟩) fun v s₁ hv k₁ X₁ => ?_
  obtain ⟨Dg, ys, kg, rfl, hf, hg, hys⟩ := hv
  have hdl : (digs ns).length ≤ 8 := by simp [digs]; omega
  refine ⟨ys.length, _, _, Src.list hh (isList_lst hg), X₁, fun p hp => .inl hp, ⟨⟨D0, ds0, k0, hD, hDN, hds⟩, hNI⟩, fun i m' cm' N' hJ => hJ.2, ?_, ?_⟩
  · intro i v m' cm' N' R' s₂ hi hv hJ X₂
    obtain ⟨⟨D, ds, k, hJ1, hJ2, hJ3⟩, hJ4⟩ := hJ
    obtain ⟨x, hx⟩ : ∃ x, (digs ns)[i]? = some x := ⟨(digs ns)[i]'(by rw [← ints_length hys]; exact hi), List.getElem?_eq_getElem _⟩
    obtain ⟨t, hxt⟩ := ints_at hys i x hx
    have hvx : v = .int x t := by rw [hv] at hxt; exact Option.some.inj hxt
    subst hvx
    have hlen : (((digs ns).take i).foldl astep []).length ≤ 8 := by
      have := fold_len ((digs ns).take i) []
      simp only [List.length_nil, List.length_take] at this
      omega
    -- sign = '..'[v % 10]
    refine wpAny_execs_cons (In.assignL X₂ (Subscript_ (Calls.Constant_str (wpAny_BinOp (X₂.ex.tk1.local_ (v := .int x t) rfl (wpAny_Constant_int (PyProof.Rows.mod_int' (by decide) ?_)))))))
    refine subscriptTail_builtin (typeIs_str _ _ _) PySem.F.slot_str_getitem.lookup (P.getItem_str (sgn_range x) (sgn_at x) ⟨_, X₂.ex.tk1.tk1.tk1.tk1, fun p hp => .inl hp, fun s₃ X₃ => ?_⟩)
    -- alphabet = alphabet + [..]
    refine wpAny_execs_cons (X₃.madeC (P := fun ys => StrsAre ys (((digs ns).take (i + 1)).foldl astep [])) (wpAny_BinOp (X₃.ex.cell_ hJ1 ?_)) fun D' ys' k' s₄ hf' hi' X₄ => wpAny_execs_nil ⟨rfl, _, _, _, X₄, ⟨D', ys', k', rfl, List.mem_cons_self, hi'⟩, ?_⟩)
    · refine X₃.ex.step (fresh_sign (sv := sgn x) hh X₃.ex rfl hJ1 hJ2 hJ3 rfl) fun v s₄ hv k₄ X₄ => ?_
      obtain ⟨D1, ys1, k1, rfl, hf1, hg1, h1⟩ := hv
      have hl1 : ys1.length ≤ 1 := by
        rw [strs_length h1]
        exact Nat.le_trans (List.length_filter_le _ _) (Nat.le_refl 1)
      have hl2 : ds.length ≤ 8 := by rw [strs_length hJ3]; exact hlen
      refine wpAny_mono (addL (X₄.news _ hJ2) hg1 (by rw [sizeLine_eq]; omega)) (fun v s₅ h => ?_) fun _ _ e => e
      obtain ⟨⟨D2, ys2, k2, rfl, hf2, hg2, rfl⟩, k₅⟩ := h
      refine ⟨⟨D2, _, k2, rfl, fresh_of X₄.keep hf2, hg2, ?_⟩, keeps_trans X₄.keep k₅⟩
      rw [foldl_take_succ hx]
      exact StrsAre.append' hJ3 h1
    · intro p hp
      rcases List.mem_cons.mp hp with rfl | hp
      · rfl
      · exact hJ4 p hp
  · intro m' cm' N' s' hJ X'
    obtain ⟨⟨D, ds, k, hJ1, hJ2, hJ3⟩, hJ4⟩ := hJ
    rw [ints_length hys, List.take_length] at hJ3
    exact hQ m' cm' N' s' D ds k X' hJ1 hJ2 hJ3 hJ4
end
end Mine

namespace Mine

def plainKv : List (Str × Int) := [(Str.ofString "&", 5), (Str.ofString "<", 4), (Str.ofString ">", 4)]
def tabW : List (Str × Int) := (dq, 6) :: (sq, 5) :: plainKv
def tabKv : List (Str × Str) := [(dq, Str.ofString "&quot;"), (sq, Str.ofString "&#39;")]
def escT (x : Str) : Str := repAll tabKv (esc x)
def textsOf (al : List Str) : Nat → List Str
  | 0 => [Str.ofString ""]
  | n + 1 => crossed (textsOf al n) al
abbrev slen (x : Str) : Int := (x.length : Int)

structure LawOK (al : List Str) : Prop where
  len : al.length ≤ 5
  one : ∀ x ∈ al, x.length = 1
  esc : ∀ n < 3, cnt (((textsOf al n).map Mine.esc).map slen) (6 * n + 1) = powOf (rowOf plainKv (Str.ofString "") al) n
  escT : ∀ n < 3, cnt (((textsOf al n).map Mine.escT).map slen) (6 * n + 1) = powOf (rowOf tabW (Str.ofString "") al) n
  quo : ∀ n < 3, cnt (((textsOf al n).map Mine.quo).map slen) (6 * n + 2 + 1) = quotedOf al n
  nq : ∀ n < 3, ((textsOf al n).map Mine.quo).Nodup
  nt : ∀ n < 3, ((textsOf al n).map Mine.escT).Nodup

theorem len_append (a b : Str) : (a ++ b).length = a.length + b.length := by
  show (a.cps ++ b.cps).size = _
  exact Array.size_append
theorem texts_length (al : List Str) : ∀ n, (textsOf al n).length = al.length ^ n
  | 0 => rfl
  | n + 1 => by rw [textsOf, crossed_length, texts_length al n, Nat.pow_succ]
theorem texts_len {al : List Str} (h : ∀ x ∈ al, x.length = 1) : ∀ n, ∀ x ∈ textsOf al n, x.length = n
  | 0, x, hx => by rw [textsOf, List.mem_singleton] at hx; subst hx; rfl
  | n + 1, x, hx => by
    rw [textsOf, crossed, List.mem_flatMap] at hx
    obtain ⟨a, ha, hx⟩ := hx
    obtain ⟨b, hb, rfl⟩ := List.mem_map.mp hx
    rw [len_append, texts_len h n a ha, h b hb]
theorem texts_small {al : List Str} (h : al.length ≤ 5) {n : Nat} (hn : n < 4) : (textsOf al n).length ≤ 125 := by
  rw [texts_length]
  calc al.length ^ n ≤ 5 ^ n := Nat.pow_le_pow_left h n
    _ ≤ 5 ^ 3 := Nat.pow_le_pow_right (by omega) (by omega)
theorem escT_len {x : Str} (hx : x.length ≤ 2) : (escT x).length < 1000000 := by
  have h0 := esc_len hx
  have h1 := len_le (esc x) dq (Str.ofString "&quot;") h0 (k := 6) (by decide)
  have h2 := len_le _ sq (Str.ofString "&#39;") h1 (k := 5) (by decide)
  exact Nat.lt_of_le_of_lt h2 (by decide)
theorem quo_len {x : Str} (hx : x.length ≤ 2) : (quo x).length < 1000000 := by
  have h0 := quo1_len hx
  have h1 := len_le (quo1 x) dq (Str.ofString "&quot;") h0 (k := 6) (by decide)
  have d : dq.length = 1 := by decide
  have e : sq.length = 1 := by decide
  unfold quo
  split
  · split
    · rw [len_append, len_append, d]; omega
    · rw [len_append, len_append, e]; omega
  · rw [len_append, len_append, d]; omega

/-- a dict of replacements that stands among what is known -/
structure TabIn (w : World) (N : List (Addr × Obj)) (d : Addr) : Prop where
  ex : ∃ es ep, (d, dictO es ep) ∈ N ∧ (∀ e ∈ es, GoodE w e) ∧ (es.map keyOf).Nodup ∧ RepE es tabKv
  mods : (d == sysModules) = false
theorem TabIn.sub {w : World} {N N' : List (Addr × Obj)} {d : Addr} (h : TabIn w N d) (hs : ∀ p ∈ N, p ∈ N') : TabIn w N' d := ⟨let ⟨es, ep, a, b⟩ := h.ex; ⟨es, ep, hs _ a, b⟩, h.mods⟩

def escScope : Scope := { kind := .function, names := [(Str.ofString ".0", .local), (Str.ofString "text", .local), (Str.ofString "escape", .globalImplicit)], isGenerator := false, isCoroutine := false, more := [] }
def escTScope : Scope := { kind := .function, names := [(Str.ofString ".0", .local), (Str.ofString "text", .local), (Str.ofString "escape", .globalImplicit), (Str.ofString "table", .free)], isGenerator := false, isCoroutine := false, more := [] }
def quoScope : Scope := { kind := .function, names := [(Str.ofString ".0", .local), (Str.ofString "text", .local), (Str.ofString "quoteattr", .globalImplicit)], isGenerator := false, isCoroutine := false, more := [] }

section
variable {prog : Program} {w : World} {A : Around} {E : Value → Shared → Prop} {s₀ s : Shared} {R : Heap} {m cm : Str → Option Value} {N : List (Addr × Obj)} {q : Str} {L a : Addr} {cd : Value}

theorem esc_comp {Tx : Addr} {ts : List Value} {tk : Nat} {T : List Str} {p1 p2 p3 p4 p5 p6 : Pos} (r : Room 6 A) (X : Ex s (envOf' 9 q L a cd) m cm N s) (hT : m "texts" = some (.ref Tx)) (hTN : (Tx, lst ts.toArray tk) ∈ N) (hts : StrsAre ts T) (hl : ∀ x ∈ T, x.length ≤ 2) (hn : T.length ≤ 1000) :
    wpAny (model prog w) A (eval (.ListComp (.Call (.Name "escape" p1) [.Name "text" p2] [] p3) [⟨.Name "text" p4, .Name "texts" p5, [], 0⟩] escScope p6) (envOf' 9 q L a cd)) (fun v s' => Made s (fun ys => StrsAre ys (T.map esc)) v s' ∧ Keeps s s') (fun _ _ => False) s := by
  refine map_local X (fun _ => true) (fun v y => ∀ x t, v = .str x t → ∃ t', y = .str (esc x) t') _ rfl (by decide) rfl (by decide) (sub_of .nil) rfl ?_
  refine X.local_ hT ⟨_, _, N, Src.list r.hh (isList_lst (X.news _ hTN)), by rw [strs_length hts, sizeLine_eq]; omega, X, ?_, ?_, ?_⟩
  · intro C i v s₂ mC hi hP hm X₂
    exact tests_nil ⟨rfl, keeps_refl _⟩
  · intro C i v s₂ mC hi hP _ hm X₂
    obtain ⟨x, t, rfl, hx⟩ := strs_at hts i v hP
    refine Ex.callDef X₂ (fun h b => b.f30) rfl (by decide) (spliced1 (X₂.local_ hm ⟨keeps_refl _, ?_⟩))
    refine wpAny_mono (escape_call (kvs := []) (es := []) r.le.le X₂.base X₂.tok ⟨⟨0, X₂.base.d22⟩, fun e he => (by cases he), by simp⟩ (by decide) .nil (hl x (List.mem_of_getElem? hx)) trivial (Nat.zero_le _) (.inr ⟨rfl, rfl⟩)) (fun v s' h => ⟨fun x' t' e => ?_, h.2⟩) fun _ _ e => e
    cases e
    exact h.1
  · intro vs ys h7 h8 h9
    rw [filter_true] at h9
    have hvs := same_vals h7 h8
    subst hvs
    exact strs_of_strs _ hts h9 fun x t y hy => hy x t rfl

theorem escT_comp {Tx Tb : Addr} {ts : List Value} {tk : Nat} {T : List Str} {p1 p2 p2' p3 p4 p5 p6 : Pos} (r : Room 6 A) (X : Ex s (envOf' 9 q L a cd) m cm N s) (hT : m "texts" = some (.ref Tx)) (hTN : (Tx, lst ts.toArray tk) ∈ N) (hts : StrsAre ts T) (hl : ∀ x ∈ T, x.length ≤ 2) (hn : T.length ≤ 1000) (hb : cm "table" = some (.ref Tb)) (hbN : TabIn w N Tb) :
    wpAny (model prog w) A (eval (.ListComp (.Call (.Name "escape" p1) [.Name "text" p2, .Name "table" p2'] [] p3) [⟨.Name "text" p4, .Name "texts" p5, [], 0⟩] escTScope p6) (envOf' 9 q L a cd)) (fun v s' => Made s (fun ys => StrsAre ys (T.map escT)) v s' ∧ Keeps s s') (fun _ _ => False) s := by
  refine map_local X (fun _ => true) (fun v y => ∀ x t, v = .str x t → ∃ t', y = .str (escT x) t') _ rfl (by decide) rfl (by decide) (sub_of (.cons rfl .nil)) rfl ?_
  refine X.local_ hT ⟨_, _, N, Src.list r.hh (isList_lst (X.news _ hTN)), by rw [strs_length hts, sizeLine_eq]; omega, X, ?_, ?_, ?_⟩
  · intro C i v s₂ mC hi hP hm X₂
    exact tests_nil ⟨rfl, keeps_refl _⟩
  · intro C i v s₂ mC hi hP _ hm X₂
    obtain ⟨x, t, rfl, hx⟩ := strs_at hts i v hP
    obtain ⟨es, ep, he, hg, hnd, hr⟩ := hbN.ex
    refine Ex.callDef X₂ (fun h b => b.f30) rfl (by decide) (spliced2 (X₂.local_ hm (X₂.cell_ hb ⟨keeps_refl _, ?_⟩)))
    refine wpAny_mono (escape_call (kvs := tabKv) (es := es) r.le.le X₂.base X₂.tok ⟨⟨ep, X₂.news _ he⟩, hg, hnd⟩ hbN.mods hr (hl x (List.mem_of_getElem? hx)) ⟨by decide, by decide, trivial⟩ (by decide) (.inl rfl)) (fun v s' h => ⟨fun x' t' e => ?_, h.2⟩) fun _ _ e => e
    cases e
    exact h.1
  · intro vs ys h7 h8 h9
    rw [filter_true] at h9
    have hvs := same_vals h7 h8
    subst hvs
    exact strs_of_strs _ hts h9 fun x t y hy => hy x t rfl

theorem quoted_stmt {Tx : Addr} {ts : List Value} {tk : Nat} {T : List Str} {Q : Flow → Shared → Prop} (r : Room 6 A) (X : In s₀ R (envOf' 9 q L a cd) m cm N s) (hT : m "texts" = some (.ref Tx)) (hTN : (Tx, lst ts.toArray tk) ∈ N) (hts : StrsAre ts T) (hl : ∀ x ∈ T, x.length ≤ 2) (hn : T.length ≤ 1000)
    (hQ : ∀ D ys k s', StrsAre ys (T.map quo) → In s₀ R (envOf' 9 q L a cd) (upd m "quoted" (.ref D)) cm ((D, lst (ys : List Value).toArray k) :: N) s' → Q .next s') :
    wpAny (model prog w) A (exec (nth 0 (forBody (nth 6 (bodyOf (theDef 9))))) (envOf' 9 q L a cd)) Q (fun _ _ => False) s := by
  refine assign_of_comp (comp_local (s₀ := s) (m := m) (cm := cm) (fun _ => true) (fun v y => ∀ x t, v = .str x t → ∃ t', y = .str (quo x) t') rfl (by decide) rfl (by decide) (sub_of .nil) rfl ?_)
  refine X.ex.local_ hT ⟨_, _, N, Src.list r.hh (isList_lst (X.news _ hTN)), by rw [strs_length hts, sizeLine_eq]; omega, X.ex, ?_, ?_, ?_⟩
  · intro C i v s₂ mC hi hP hm X₂
    exact tests_nil ⟨rfl, keeps_refl _⟩
  · intro C i v s₂ mC hi hP _ hm X₂
    obtain ⟨x, t, rfl, hx⟩ := strs_at hts i v hP
    refine Ex.callDef X₂ (fun h b => b.f39) rfl (by decide) (spliced1 (X₂.local_ hm ⟨keeps_refl _, ?_⟩))
    refine wpAny_mono (quoteattr_call r X₂.base X₂.tok (hl x (List.mem_of_getElem? hx))) (fun v s' h => ⟨fun x' t' e => ?_, h.2⟩) fun _ _ e => e
    cases e
    exact h.1
  · intro D C ys k s' vs h1 h2 h3 h4 h5 h6 h7 h8 h9
    rw [filter_true] at h9
    have hvs := same_vals h7 h8
    subst hvs
    refine post_assignL X X.ex h1 h2 h3 h5 h6 (fun p hp => .inl hp) rfl rfl fun s'' X'' => ?_
    exact hQ D ys.toList k s'' (strs_of_strs _ hts h9 fun x t y hy => hy x t rfl) (by simpa using X'')
end
end Mine

namespace Mine

section
variable {prog : Program} {w : World} {A : Around} {E : Value → Shared → Prop} {s₀ s : Shared} {R : Heap} {m cm : Str → Option Value} {N : List (Addr × Obj)} {q : Str} {L a : Addr} {cd : Value} {env : Env}

theorem Made.strs {v : Value} {s' : Shared} {T : List Str} (h : Made s (fun ys => StrsAre ys T) v s') : ∃ D, v = .ref D ∧ LStr s'.heap D T := let ⟨D, ys, k, e, _, hg, hi⟩ := h; ⟨D, e, ys, k, hg, hi⟩

theorem neTest {l r : Expr} {pos : Pos} {whole : Sem Value} {ns ms : List Int} (hu : A.units + 64 < cLine) (X : Ex s env m cm N s)
    (hl : wpAny (model prog w) A (eval l env) (fun v s' => (∃ D, v = .ref D ∧ LInt s'.heap D ns) ∧ Keeps s s') (fun _ _ => False) s)
    (hr : ∀ s₁, Ex s₁ env m cm N s₁ → wpAny (model prog w) A (eval r env) (fun v s' => (∃ D, v = .ref D ∧ LInt s'.heap D ms) ∧ Keeps s₁ s') (fun _ _ => False) s₁) (e : ns = ms)
    (hm : behindInMarks .NotEq r = false) :
    wpAny (model prog w) A (isTrue (.Compare l [.NotEq] [r] pos) env whole) (fun b s' => b = false ∧ Keeps s s') (fun _ _ => False) s := by
  refine wpAny_isTrue_Compare1 (X.step hl fun v s₁ hv k₁ X₁ => ?_) hm
  obtain ⟨D, rfl, hL⟩ := hv
  refine wpAny_mono (hr s₁ X₁.root) (fun v s₂ hv => ?_) fun _ _ e => e
  obtain ⟨⟨D', rfl, hL'⟩, k₂⟩ := hv
  obtain ⟨vs, k, hg, hi⟩ := hL.keeps k₂
  obtain ⟨vs', k', hg', hi'⟩ := hL'
  refine ne_intsK (isList_lst hg) hi (isList_lst hg') hi' hu (wpAny_truthy_bool ⟨?_, keeps_trans k₁ k₂⟩)
  simp [e]

theorem neTest1 {l r : Expr} {pos : Pos} {whole : Sem Value} {x y : Int} (X : Ex s env m cm N s)
    (hl : wpAny (model prog w) A (eval l env) (fun v s' => (∃ t, v = .int x t) ∧ Keeps s s') (fun _ _ => False) s)
    (hr : ∀ s₁, Ex s₁ env m cm N s₁ → wpAny (model prog w) A (eval r env) (fun v s' => (∃ t, v = .int y t) ∧ Keeps s₁ s') (fun _ _ => False) s₁) (e : x = y)
    (hm : behindInMarks .NotEq r = false) :
    wpAny (model prog w) A (isTrue (.Compare l [.NotEq] [r] pos) env whole) (fun b s' => b = false ∧ Keeps s s') (fun _ _ => False) s := by
  refine wpAny_isTrue_Compare1 (X.step hl fun v s₁ hv k₁ X₁ => ?_) hm
  obtain ⟨t, rfl⟩ := hv
  refine wpAny_mono (hr s₁ X₁.root) (fun v s₂ hv => ?_) fun _ _ e => e
  obtain ⟨⟨u, rfl⟩, k₂⟩ := hv
  exact PyProof.Rows.ne_int (wpAny_truthy_bool ⟨by simp [e], keeps_trans k₁ k₂⟩)

theorem In.ifFalse {test : Expr} {body : List Stmt} {pos : Pos} {Q : Flow → Shared → Prop} (X : In s₀ R env m cm N s)
    (h : wpAny (model prog w) A (isTrue test env (eval test env)) (fun b s' => b = false ∧ Keeps s s') (fun _ _ => False) s)
    (hq : ∀ s', In s₀ R env m cm N s' → Q .next s') : wpAny (model prog w) A (exec (.If test body [] pos) env) Q E s := by
  refine wpAny_If (X.ex.step h fun b s' hb k X' => ?_)
  subst hb
  exact wpAny_execs_nil (hq s' (X.of X' fun p hp => .inl hp))

theorem countedCall {e1 e2 : Expr} {p1 p2 : Pos} {T : List Str} {k : Nat} (r : Room 4 A) (X : Ex s env m cm N s)
    (h1 : wpAny (model prog w) A (eval e1 env) (fun v s' => (∃ D, v = .ref D ∧ LStr s'.heap D T) ∧ Keeps s s') (fun _ _ => False) s)
    (h2 : ∀ s₁ (Q : Value → Shared → Prop), Ex s env m cm N s₁ → (∀ t s₂, Keeps s₁ s₂ → Ex s env m cm N s₂ → Q (.int (k : Int) t) s₂) → wpAny (model prog w) A (eval e2 env) Q (fun _ _ => False) s₁)
    (hx : ∀ x ∈ T, x.length < 1000000) (hxl : T.length ≤ 1000) (hk : k ≤ 900)
    (htr : backTo p2 (starEach [e1, e2] env) = [(false, eval e1 env), (false, eval e2 env)])
    (hkf : env.scope.kind = .function) (hl : env.kindOf "_law_counted" = some .globalImplicit) (hgl : env.globals = mainGlobals) :
    wpAny (model prog w) A (eval (.Call (.Name "_law_counted" p1) [e1, e2] [] p2) env) (fun v s' => (∃ D, v = .ref D ∧ LInt s'.heap D (cnt (T.map slen) (k + 1))) ∧ Keeps s s') (fun _ _ => False) s := by
  refine Ex.callDef X (fun h b => b.f59) htr (by decide) (spliced2 (X.step h1 fun v s₁ hv k₁ X₁ => ?_)) hkf hl hgl
  obtain ⟨D, rfl, hL⟩ := hv
  refine h2 s₁ _ X₁ fun t s₂ k₂ X₂ => ⟨X₂.keep, ?_⟩
  exact wpAny_mono (counted_call r X₂.base X₂.tok (hL.keeps k₂) hx hxl hk) (fun v s₃ h => ⟨h.1, keeps_trans X₂.keep h.2⟩) fun _ _ e => e

/-- _law_power(_law_row(a, b, c), n), b any expression that gives a table -/
theorem powRowG {e1 e2 e3 e4 : Expr} {p1 p2 p3 p4 : Pos} {Al : Addr} {als : List Value} {ak : Nat} {xs : List Str} {kvs : List (Str × Int)} {wo : Str} {n : Nat} (r : Room 4 A) (X : Ex s env m cm N s)
    (hal : (Al, lst als.toArray ak) ∈ N) (has : StrsAre als xs) (hxl : xs.length ≤ 1000) (hn : n ≤ 100)
    (h1 : ∀ (Q : Value → Shared → Prop), Q (.ref Al) s → wpAny (model prog w) A (eval e1 env) Q (fun _ _ => False) s)
    (h2 : ∀ (Q : Value → Shared → Prop), (∀ d N' s', Ex s env m cm N' s' → (∀ p ∈ N, p ∈ N') → DictIn w N' d kvs → Q (.ref d) s') → wpAny (model prog w) A (eval e2 env) Q (fun _ _ => False) s)
    (h3 : ∀ {N' s'} (Q : Value → Shared → Prop), Ex s env m cm N' s' → (∀ t s'', Ex s env m cm N' s'' → Q (.str wo t) s'') → wpAny (model prog w) A (eval e3 env) Q (fun _ _ => False) s')
    (h4 : ∀ {N' s'} (Q : Value → Shared → Prop), Ex s env m cm N' s' → (∀ t, Q (.int (n : Int) t) s') → wpAny (model prog w) A (eval e4 env) Q (fun _ _ => False) s')
    (htr : backTo p4 (starEach [.Call (.Name "_law_row" p1) [e1, e2, e3] [] p2, e4] env) = [(false, eval (.Call (.Name "_law_row" p1) [e1, e2, e3] [] p2) env), (false, eval e4 env)])
    (htr2 : backTo p2 (starEach [e1, e2, e3] env) = [(false, eval e1 env), (false, eval e2 env), (false, eval e3 env)])
    (hk : env.scope.kind = .function) (hl : env.kindOf "_law_power" = some .globalImplicit) (hl2 : env.kindOf "_law_row" = some .globalImplicit) (hgl : env.globals = mainGlobals) :
    wpAny (model prog w) A (eval (.Call (.Name "_law_power" p3) [.Call (.Name "_law_row" p1) [e1, e2, e3] [] p2, e4] [] p4) env)
      (fun v s' => (∃ D, v = .ref D ∧ LInt s'.heap D (powOf (rowOf kvs wo xs) n)) ∧ Keeps s s') (fun _ _ => False) s := by
  refine Ex.callDef X (fun h b => b.f49) htr (by decide) (spliced2 (Ex.callDef X (fun h b => b.f44) htr2 (by decide) (spliced3 (h1 _ (h2 _ fun d N' s₀ X₀ hs hd => (h3 _ X₀ fun t s₁ X₁ => ⟨X₁.keep, ?_⟩)))) hk hl2 hgl)) hk hl hgl
  obtain ⟨es, ep, hde, hg, hnd, hi⟩ := hd.ex
  refine X₁.step (row_call r X₁.base X₁.tok ⟨als, ak, X₁.news _ (hs _ hal), has⟩ ⟨⟨ep, X₁.news _ hde⟩, hg, hnd⟩ hd.mods hi hxl) fun v s₂ hv k₂ X₂ => ?_
  obtain ⟨D, rfl, hL⟩ := hv
  refine h4 _ X₂ fun t' => ⟨X₂.keep, ?_⟩
  refine wpAny_mono (power_call r X₂.base X₂.tok hL (row_length _ _ _) (row_small hxl) hn) (fun v s₃ h => ?_) fun _ _ e => e
  obtain ⟨⟨D', rfl, hf, hL'⟩, k₃⟩ := h
  exact ⟨⟨D', rfl, hL'⟩, keeps_trans X₂.keep k₃⟩

/-- {".." : i, ".." : j, **m} -/
theorem dict_last2 {c1 c2 v1 v2 v : Expr} {o : Addr} {es0 : List DictEntry} {pos : Pos} (P : List (Value × Value) → Prop)
    (hmv : ∀ s₁, Keeps s s₁ → s.toks ≤ s₁.toks → wpAny (model prog w) A (eval v env) (fun v s₂ => v = .ref o ∧ Keeps s₁ s₂) (fun _ _ => False) s₁) (ho : SD w s.heap o es0) (hoS : (o == sysModules) = false) (hsz : es0.length ≤ 1000)
    (hp : ∀ s₁, Keeps s s₁ → s.toks ≤ s₁.toks → wpAny (model prog w) A (evalPairs (pairTrees [some c1, some c2] [v1, v2] env pos)) (fun vs s₂ => P vs ∧ Keeps s₁ s₂) (fun _ _ => False) s₁)
    (hP : ∀ vs, P vs → (∀ p ∈ vs, ∃ k t, p.1 = .str k t) ∧ ((entsOf w vs ++ es0).map keyOf).Nodup) :
    wpAny (model prog w) A (eval (.Dict [some c1, some c2, none] [v1, v2, v] pos) env) (fun v s' => (∃ D vs, v = .ref D ∧ P vs ∧ D = s.heap.objs.size ∧ SD w s'.heap D (entsOf w vs ++ es0)) ∧ Keeps s s') (fun _ _ => False) s :=
  dict_last (ks := [some c1, some c2]) (vs := [v1, v2]) P rfl rfl (List.cons_ne_nil _ _) (by show 2 ≤ 15; decide) hmv ho hoS hsz hp hP rfl

/-- 6 * n -/
theorem six_n {n : Nat} {tn : Tok} {kk : Nat} {p1 p2 p3 : Pos} {s₁ : Shared} {Q : Value → Shared → Prop} (X : Ex s (envOf' 9 q L a cd) m cm N s₁) (hn : m "n" = some (.int (n : Int) tn)) (hQ : ∀ t s₂, Keeps s₁ s₂ → Ex s (envOf' 9 q L a cd) m cm N s₂ → Q (.int ((6 * n : Nat) : Int) t) s₂) :
    wpAny (model prog w) A (eval (.BinOp (.Constant (.int 6) kk p1) .Mult (.Name "n" p2) p3) (envOf' 9 q L a cd)) Q E s₁ := by
  refine wpAny_BinOp (wpAny_Constant_int (X.tk1.local_ hn (PyProof.Rows.mul_int ?_ (.of_left (by decide)))))
  have := hQ s₁.toks.succ _ (keeps_tok s₁ (s₁.toks + 1 + 1)) X.tk1.tk1
  rw [show ((6 * n : Nat) : Int) = 6 * (n : Int) by omega] at this
  exact this
end
end Mine

namespace Mine

structure Known (w : World) (al : List Str) (n : Nat) (m cm : Str → Option Value) (N : List (Addr × Obj)) : Prop where
  alph : ∃ D ds k, cm "alphabet" = some (.ref D) ∧ (D, lst (ds : List Value).toArray k) ∈ N ∧ StrsAre ds al
  plain : ∃ d, m "plain" = some (.ref d) ∧ DictIn w N d plainKv
  table : ∃ d, cm "table" = some (.ref d) ∧ TabIn w N d
  texts : ∃ D ds k, m "texts" = some (.ref D) ∧ (D, lst (ds : List Value).toArray k) ∈ N ∧ StrsAre ds (textsOf al n)

section
variable {prog : Program} {w : World} {A : Around} {E : Value → Shared → Prop} {s₀ s : Shared} {R : Heap} {m cm : Str → Option Value} {N : List (Addr × Obj)} {q : Str} {L a : Addr} {cd : Value} {al : List Str} {n : Nat} {tn : Tok}

theorem strs_lt {T : List Str} {f : Str → Str} (h : ∀ x ∈ T, (f x).length < 1000000) : ∀ y ∈ T.map f, y.length < 1000000 := by
  intro y hy
  obtain ⟨x, hx, rfl⟩ := List.mem_map.mp hy
  exact h x hx

theorem ifA {Q : Flow → Shared → Prop} (r : Room 7 A) (X : In s₀ R (envOf' 9 q L a cd) m cm N s) (ok : LawOK al) (hn : n < 3) (K : Known w al n m cm N) (hnm : m "n" = some (.int (n : Int) tn)) (hQ : ∀ s', In s₀ R (envOf' 9 q L a cd) m cm N s' → Q .next s') :
    wpAny (model prog w) A (exec (nth 1 (forBody (nth 6 (bodyOf (theDef 9))))) (envOf' 9 q L a cd)) Q (fun _ _ => False) s := by
  obtain ⟨Al, als, ak, ha1, ha2, ha3⟩ := K.alph
  obtain ⟨Pl, hp1, hp2⟩ := K.plain
  obtain ⟨Tx, ts, tk, ht1, ht2, ht3⟩ := K.texts
  have hl : ∀ x ∈ textsOf al n, x.length ≤ 2 := fun x hx => by rw [texts_len ok.one n x hx]; omega
  have hc := texts_small ok.len (n := n) (by omega)
  refine X.ifFalse (neTest r.u64 X.ex (countedCall (T := (textsOf al n).map esc) (k := 6 * n) r.le.le.le X.ex ?_ ?_ ?_ ?_ ?_ rfl rfl rfl rfl) (fun s₁ X₁ => powRowG (kvs := plainKv) (wo := Str.ofString "") (n := n) r.le.le.le X₁ ha2 ha3 ?_ ?_ ?_ ?_ ?_ ?_ rfl rfl rfl rfl rfl rfl) (ok.esc n hn) rfl) hQ
  · exact wpAny_mono (esc_comp r.le X.ex ht1 ht2 ht3 hl (by omega)) (fun v s' h => ⟨h.1.strs, h.2⟩) fun _ _ e => e
  · intro s₁ Q' X₁ hQ'
    exact six_n X₁ hnm hQ'
  · exact strs_lt fun x hx => Nat.lt_of_le_of_lt (esc_len (hl x hx)) (by decide)
  · rw [List.length_map]; omega
  · omega
  · have := ok.len; omega
  · omega
  · intro Q' hQ'; exact X₁.cell_ ha1 hQ'
  · intro Q' hQ'; exact X₁.local_ hp1 (hQ' Pl N s₁ X₁ (fun p hp => hp) hp2)
  · intro N' s' Q' X' hQ'; exact Calls.Constant_str (hQ' _ _ X'.tk1)
  · intro N' s' Q' X' hQ'; exact X'.local_ hnm (hQ' _)

theorem ifB {Q : Flow → Shared → Prop} (r : Room 7 A) (X : In s₀ R (envOf' 9 q L a cd) m cm N s) (ok : LawOK al) (hn : n < 3) (K : Known w al n m cm N) (hnm : m "n" = some (.int (n : Int) tn)) (hQ : ∀ s', In s₀ R (envOf' 9 q L a cd) m cm N s' → Q .next s') :
    wpAny (model prog w) A (exec (nth 2 (forBody (nth 6 (bodyOf (theDef 9))))) (envOf' 9 q L a cd)) Q (fun _ _ => False) s := by
  obtain ⟨Al, als, ak, ha1, ha2, ha3⟩ := K.alph
  obtain ⟨Pl, hp1, hp2⟩ := K.plain
  obtain ⟨Tb, hb1, hb2⟩ := K.table
  obtain ⟨Tx, ts, tk, ht1, ht2, ht3⟩ := K.texts
  have hl : ∀ x ∈ textsOf al n, x.length ≤ 2 := fun x hx => by rw [texts_len ok.one n x hx]; omega
  have hc := texts_small ok.len (n := n) (by omega)
  refine X.ifFalse (neTest r.u64 X.ex (countedCall (T := (textsOf al n).map escT) (k := 6 * n) r.le.le.le X.ex ?_ ?_ ?_ ?_ ?_ rfl rfl rfl rfl) (fun s₁ X₁ => powRowG (kvs := tabW) (wo := Str.ofString "") (n := n) r.le.le.le X₁ ha2 ha3 ?_ ?_ ?_ ?_ ?_ ?_ rfl rfl rfl rfl rfl rfl) (ok.escT n hn) rfl) hQ
  · exact wpAny_mono (escT_comp r.le X.ex ht1 ht2 ht3 hl (by omega) hb1 hb2) (fun v s' h => ⟨h.1.strs, h.2⟩) fun _ _ e => e
  · intro s₁ Q' X₁ hQ'
    exact six_n X₁ hnm hQ'
  · exact strs_lt fun x hx => escT_len (hl x hx)
  · rw [List.length_map]; omega
  · omega
  · have := ok.len; omega
  · omega
  · intro Q' hQ'; exact X₁.cell_ ha1 hQ'
  · intro Q' hQ'
    obtain ⟨es0, ep0, hde, hg, hnd, hi⟩ := hp2.ex
    have hk0 : es0.map keyOf = [Str.ofString "&", Str.ofString "<", Str.ofString ">"] := by
      clear hnd hg hde
      cases hi with | cons h1 t1 => cases t1 with | cons h2 t2 => cases t2 with | cons h3 t3 =>
        cases t3
        obtain ⟨_, _, h1, _⟩ := h1
        obtain ⟨_, _, h2, _⟩ := h2
        obtain ⟨_, _, h3, _⟩ := h3
        simp [keyOf, h1, h2, h3]
    with_reducible refine Ex.step X₁ (dict_last2 (w := w) (o := Pl) (es0 := es0) (fun vs => ∃ t, vs = [(.str dq t, .int 6 (t + 1)), (.str sq (t + 1 + 1), .int 5 (t + 1 + 1 + 1))]) ?_ ⟨⟨ep0, X₁.news _ hde⟩, hg, hnd⟩ hp2.mods ?_ ?_ ?_) ?_
    · intro s₂ k ht
      exact ((X₁.to k (Nat.lt_of_lt_of_le X₁.tok ht)).root.local_ hp1 ⟨rfl, keeps_refl _⟩)
    · have : (es0.map keyOf).length = 3 := by rw [hk0]; rfl
      rw [List.length_map] at this; omega
    · intro s₂ k ht
      exact pairTrees_cons_walk (Calls.Constant_str (wpAny_Constant_int (pairTrees_cons_walk (Calls.Constant_str (wpAny_Constant_int (pairTrees_nil_walk ⟨⟨s₂.toks, rfl⟩, keeps_tok _ _⟩))))))
    · rintro vs ⟨t, rfl⟩
      refine ⟨fun p hp => ?_, ?_⟩
      · simp only [List.mem_cons, List.mem_nil_iff, or_false] at hp
        rcases hp with rfl | rfl <;> exact ⟨_, _, rfl⟩
      · rw [List.map_append, hk0]
        show [dq, sq, Str.ofString "&", Str.ofString "<", Str.ofString ">"].Nodup
        decide
    · rintro v s₂ ⟨D, vs, rfl, ⟨t, rfl⟩, hD, hS⟩ k X₂
      obtain ⟨ep, hget⟩ := hS.get
      have hDS : (D == sysModules) = false := by
        have : sysModules < D := hD ▸ X₁.base.big
        simpa using Nat.ne_of_gt this
      exact hQ' D _ s₂ (X₂.add hget) (fun p hp => List.mem_cons_of_mem _ hp) ⟨⟨_, ep, List.mem_cons_self, hS.keys, hS.nodup, .cons ⟨_, _, rfl, rfl⟩ (.cons ⟨_, _, rfl, rfl⟩ hi)⟩, hDS⟩
  · intro N' s' Q' X' hQ'; exact Calls.Constant_str (hQ' _ _ X'.tk1)
  · intro N' s' Q' X' hQ'; exact X'.local_ hnm (hQ' _)
end
end Mine

namespace Mine

section
variable {prog : Program} {w : World} {A : Around} {E : Value → Shared → Prop} {s₀ s : Shared} {R : Heap} {m cm : Str → Option Value} {N : List (Addr × Obj)} {q : Str} {L a : Addr} {cd : Value} {al : List Str} {n : Nat} {tn : Tok} {env : Env}

theorem assign_of_comp2 {elt : Expr} {x y z : Str} {px py pz pos spos : Pos} {i1 i2 : Expr} {scope : Scope} {Q : Flow → Shared → Prop}
    (hsw : swapsWith (twoE elt x y px py i1 i2 scope pos) (some (.Name z pz)) spos.line env = pure true)
    (h : wpAny (model prog w) A (comprehension (twoE elt x y px py i1 i2 scope pos) scope env (firstIterPos [⟨.Name x px, i1, [], 0⟩, ⟨.Name y py, i2, [], 0⟩] pos) (newList []) false (eval i1 env) (some (assign (.Name z pz) env))) (fun _ s' => Q .next s') E s) :
    wpAny (model prog w) A (exec (.Assign [.Name z pz] (twoE elt x y px py i1 i2 scope pos) spos) env) Q E s := by
  rw [exec_Assign_Name_used _ _ _ _ hsw]
  refine wpAny_bind (wpAny_standAt (wpAny_bind ?_))
  show wpAny _ A (do let _ ← comprehension (twoE elt x y px py i1 i2 scope pos) scope env _ (newList []) false (eval i1 env) (some (assign (.Name z pz) env))) _ _ s
  exact wpAny_bind (wpAny_mono h (fun _ s' hq => wpAny_pure (wpAny_pure hq)) fun _ _ e => e)

/-- len(set(e)) -/
theorem lenSetCall {e : Expr} {p1 p2 p3 p4 : Pos} {T : List Str} (hh : A.handled = none) (X : Ex s env m cm N s) (hnd : T.Nodup) (hT : T.length ≤ 1000)
    (h : wpAny (model prog w) A (eval e env) (fun v s' => (∃ D, v = .ref D ∧ LStr s'.heap D T) ∧ Keeps s s') (fun _ _ => False) s)
    (htr : backTo p4 (starEach [.Call (.Name "set" p1) [e] [] p2] env) = [(false, eval (.Call (.Name "set" p1) [e] [] p2) env)])
    (htr2 : backTo p2 (starEach [e] env) = [(false, eval e env)])
    (hk : env.scope.kind = .function) (hl : env.kindOf "len" = some .globalImplicit) (hl2 : env.kindOf "set" = some .globalImplicit) (hgl : env.globals = mainGlobals) (hb : env.builtins = builtinsNs) :
    wpAny (model prog w) A (eval (.Call (.Name "len" p3) [.Call (.Name "set" p1) [e] [] p2] [] p4) env) (fun v s' => (∃ t, v = .int (T.length : Int) t) ∧ Keeps s s') (fun _ _ => False) s := by
  refine Ex.callBuilt X htr rfl (id := "len") (by decide) (spliced1 (Ex.callType X (T := "set") htr2 (by decide) (wpAny_mono h (fun v s₁ h₁ => ?_) fun _ _ e => e) hk hl2 hgl hb)) hk hl hgl hb
  obtain ⟨⟨D, rfl, vs, k, hg, hi⟩, k₁⟩ := h₁
  refine wpAny_mono (setOfStrs hh hg hi hnd hT) (fun v s₂ h₂ => ?_) fun _ _ e => e
  obtain ⟨⟨S, rfl, hS⟩, k₂⟩ := h₂
  exact wpAny_mono (lenSet hS hT) (fun v s₃ h₃ => ⟨h₃.1, keeps_trans k₁ (keeps_trans k₂ h₃.2)⟩) fun _ _ e => e

theorem ifC {Q : Flow → Shared → Prop} {Dq : Addr} {qs : List Value} {qk : Nat} (r : Room 7 A) (X : In s₀ R (envOf' 9 q L a cd) m cm N s) (ok : LawOK al) (hn : n < 3) (K : Known w al n m cm N) (hnm : m "n" = some (.int (n : Int) tn)) (hq1 : m "quoted" = some (.ref Dq)) (hq2 : (Dq, lst qs.toArray qk) ∈ N) (hq3 : StrsAre qs ((textsOf al n).map quo))
    (hQ : ∀ s', In s₀ R (envOf' 9 q L a cd) m cm N s' → Q .next s') :
    wpAny (model prog w) A (exec (nth 3 (forBody (nth 6 (bodyOf (theDef 9))))) (envOf' 9 q L a cd)) Q (fun _ _ => False) s := by
  obtain ⟨Al, als, ak, ha1, ha2, ha3⟩ := K.alph
  have hl : ∀ x ∈ textsOf al n, x.length ≤ 2 := fun x hx => by rw [texts_len ok.one n x hx]; omega
  have hc := texts_small ok.len (n := n) (by omega)
  have h5 := ok.len
  have hall : als.length = al.length := strs_length ha3
  refine X.ifFalse (wpAny_isTrue_BoolOp (wpAny_allTrue_Or_cons (X.ex.step (neTest r.u64 X.ex (countedCall (T := (textsOf al n).map quo) (k := 6 * n + 2) r.le.le.le X.ex ?_ ?_ ?_ ?_ ?_ rfl rfl rfl rfl) (fun s₁ X₁ => ?_) (ok.quo n hn) rfl) (fun b s₁ hb k₁ X₁ => ?_)))) hQ
  · exact X.ex.local_ hq1 ⟨⟨Dq, rfl, qs, qk, X.news _ hq2, hq3⟩, keeps_refl _⟩
  · intro s₁ Q' X₁ hQ'
    refine wpAny_BinOp (six_n X₁ hnm fun t s₂ k₂ X₂ => wpAny_Constant_int (add_int ?_))
    have := hQ' s₂.toks.succ _ (keeps_trans k₂ (keeps_tok s₂ (s₂.toks + 1 + 1))) X₂.tk1.tk1
    rw [show ((6 * n + 2 : Nat) : Int) = ((6 * n : Nat) : Int) + 2 by omega] at this
    exact this
  · exact strs_lt fun x hx => quo_len (hl x hx)
  · rw [List.length_map]; omega
  · omega
  · refine Ex.callDef X₁ (fun h b => b.f54) rfl (by decide) (spliced2 (X₁.cell_ ha1 (X₁.local_ hnm ⟨keeps_refl _, ?_⟩)))
    exact quoted_call r.le X₁.base X₁.tok ⟨als, ak, X₁.news _ ha2, ha3⟩ (by omega) (by omega)
  · subst hb
    rw [if_neg Bool.false_ne_true]
    refine wpAny_allTrue_Or_cons (wpAny_mono (neTest1 X₁.root (x := ((textsOf al n).map quo).length) (lenSetCall r.hh X₁.root (ok.nq n hn) (by rw [List.length_map]; omega) ?_ rfl rfl rfl rfl rfl rfl rfl) (fun s₂ X₂ => ?_) (y := (al.length : Int) ^ n) ?_ rfl) (fun b s₂ h₂ => ?_) fun _ _ e => e)
    · exact X₁.root.local_ hq1 ⟨⟨Dq, rfl, qs, qk, X₁.news _ hq2, hq3⟩, keeps_refl _⟩
    · refine wpAny_BinOp (lenCell X₂ ha1 ha2 (by omega) rfl rfl rfl (by decide) (X₂.tk1.tk1.local_ hnm (pow_int_small (by omega) (by omega) (by omega) ⟨⟨s₂.toks + 1 + 1, ?_⟩, keeps_tok s₂ _⟩)))
      rw [hall]; rfl
    · rw [List.length_map, texts_length]; simp
    · obtain ⟨rfl, k₂⟩ := h₂
      rw [if_neg Bool.false_ne_true]
      exact wpAny_allTrue_Or_nil ⟨rfl, keeps_trans k₁ k₂⟩

theorem ifD {Q : Flow → Shared → Prop} (r : Room 7 A) (X : In s₀ R (envOf' 9 q L a cd) m cm N s) (ok : LawOK al) (hn : n < 3) (K : Known w al n m cm N) (hQ : ∀ s', In s₀ R (envOf' 9 q L a cd) m cm N s' → Q .next s') :
    wpAny (model prog w) A (exec (nth 4 (forBody (nth 6 (bodyOf (theDef 9))))) (envOf' 9 q L a cd)) Q (fun _ _ => False) s := by
  obtain ⟨Tb, hb1, hb2⟩ := K.table
  obtain ⟨Tx, ts, tk, ht1, ht2, ht3⟩ := K.texts
  have hl : ∀ x ∈ textsOf al n, x.length ≤ 2 := fun x hx => by rw [texts_len ok.one n x hx]; omega
  have hc := texts_small ok.len (n := n) (by omega)
  have htl : ts.length = (textsOf al n).length := strs_length ht3
  refine X.ifFalse (neTest1 X.ex (x := ((textsOf al n).map escT).length) (lenSetCall r.hh X.ex (ok.nt n hn) (by rw [List.length_map]; omega) ?_ rfl rfl rfl rfl rfl rfl rfl) (fun s₂ X₂ => ?_) (y := ((textsOf al n).length : Int)) ?_ rfl) hQ
  · exact wpAny_mono (escT_comp r.le X.ex ht1 ht2 ht3 hl (by omega) hb1 hb2) (fun v s' h => ⟨h.1.strs, h.2⟩) fun _ _ e => e
  · refine Ex.callBuilt X₂ rfl rfl (id := "len") (by decide) (spliced1 (X₂.local_ ht1 ?_))
    exact PyProof.Rows.len_list (isList_lst (X₂.news _ ht2)) (by simp; omega) ⟨⟨_, by rw [List.size_toArray, htl]⟩, keeps_tok _ _⟩
  · rw [List.length_map]

theorem texts_stmt {Q : Flow → Shared → Prop} (r : Room 7 A) (X : In s₀ R (envOf' 9 q L a cd) m cm N s) (ok : LawOK al) (hn : n < 3) (K : Known w al n m cm N)
    (hQ : ∀ D ys k s', StrsAre ys (textsOf al (n + 1)) → In s₀ R (envOf' 9 q L a cd) (upd m "texts" (.ref D)) cm ((D, lst (ys : List Value).toArray k) :: N) s' → Q .next s') :
    wpAny (model prog w) A (exec (nth 5 (forBody (nth 6 (bodyOf (theDef 9))))) (envOf' 9 q L a cd)) Q (fun _ _ => False) s := by
  obtain ⟨Al, als, ak, ha1, ha2, ha3⟩ := K.alph
  obtain ⟨Tx, ts, tk, ht1, ht2, ht3⟩ := K.texts
  have h5 := ok.len
  have hc := texts_small ok.len (n := n) (by omega)
  refine assign_of_comp2 rfl (two_comp (x := "text") (y := "sign") (txts := textsOf al n) (al := al) r.hh X.ex (fun Q' hQ' => X.ex.local_ ht1 hQ') ht2 ht3 ha2 ha3 ?_ rfl (by decide) rfl (by decide) (sub_of (.cons rfl .nil)) rfl rfl (by decide) ?_ ?_ ?_)
  · have : (textsOf al n).length * al.length ≤ 125 * 5 := Nat.mul_le_mul hc h5
    omega
  · intro C s₂ mC Q' X₂ hQ'
    exact X₂.cell_ ha1 hQ'
  · intro C s₂ mC b c tb tc X₂ hx hy hbm hcm
    have e1 := texts_len ok.one n b hbm
    have e2 := ok.one c hcm
    exact wpAny_BinOp (X₂.local_ hx (X₂.local_ hy (PyProof.Rows.add_str (fun t' tk => ⟨⟨t', rfl⟩, keeps_tok _ _⟩) (by rw [e1, e2, sizeLine_eq]; omega))))
  · intro D C ys k s' h1 h2 h3 h4 h5 h6 h7
    exact post_assignL X X.ex h1 h2 h3 h5 h6 (fun p hp => .inl hp) rfl rfl fun s'' X'' => hQ D ys k s'' h7 X''
end
end Mine

namespace Mine

abbrev plainVs (t : Nat) : List (Value × Value) := [(.str (Str.ofString "&") t, .int 5 (t + 1)), (.str (Str.ofString "<") (t + 1 + 1), .int 4 (t + 1 + 1 + 1)), (.str (Str.ofString ">") (t + 1 + 1 + 1 + 1), .int 4 (t + 1 + 1 + 1 + 1 + 1))]
theorem plain_rep (w : World) (t : Nat) : IntE (entsOf w (plainVs t)) plainKv := .cons ⟨_, _, rfl, rfl⟩ (.cons ⟨_, _, rfl, rfl⟩ (.cons ⟨_, _, rfl, rfl⟩ .nil))
abbrev tabVs (t : Nat) : List (Value × Value) := [(.str dq t, .str (Str.ofString "&quot;") (t + 1)), (.str sq (t + 1 + 1), .str (Str.ofString "&#39;") (t + 1 + 1 + 1))]
theorem tab_rep (w : World) {t : Nat} (ht : 0 < t) : RepE (entsOf w (tabVs t)) tabKv := by
  have ne : ∀ k : Nat, k ≠ k + 1 := fun k => Nat.ne_of_lt (Nat.lt_succ_self k)
  exact .cons ⟨t, t + 1, rfl, rfl, Nat.ne_of_gt ht, Nat.succ_ne_zero _, ne _, by decide⟩ (.cons ⟨t + 1 + 1, t + 1 + 1 + 1, rfl, rfl, Nat.succ_ne_zero _, Nat.succ_ne_zero _, ne _, by decide⟩ .nil)

theorem Known.to {w : World} {al : List Str} {n : Nat} {m cm m' cm' : Str → Option Value} {N N' : List (Addr × Obj)} (K : Known w al n m cm N) (h1 : cm' "alphabet" = cm "alphabet") (h2 : m' "plain" = m "plain") (h3 : cm' "table" = cm "table") (h4 : m' "texts" = m "texts") (hs : ∀ p ∈ N, p ∈ N') : Known w al n m' cm' N' where
  alph := let ⟨D, ds, k, a, b, c⟩ := K.alph; ⟨D, ds, k, h1.trans a, hs _ b, c⟩
  plain := let ⟨d, a, b⟩ := K.plain; ⟨d, h2.trans a, b.sub hs⟩
  table := let ⟨d, a, b⟩ := K.table; ⟨d, h3.trans a, b.sub hs⟩
  texts := let ⟨D, ds, k, a, b, c⟩ := K.texts; ⟨D, ds, k, h4.trans a, hs _ b, c⟩

theorem iter_cons {o : Addr × Obj} {N : List (Addr × Obj)} (h : isIter o.2 = false) (hN : ∀ p ∈ N, isIter p.2 = false) : ∀ p ∈ o :: N, isIter p.2 = false := fun p hp => by
  rcases List.mem_cons.mp hp with rfl | hp
  · exact h
  · exact hN p hp

section
variable {prog : Program} {w : World} {A : Around} {E : Value → Shared → Prop} {s₀ s : Shared} {R : Heap} {m cm : Str → Option Value} {N : List (Addr × Obj)} {q : Str} {L a : Addr} {cd : Value} {al : List Str}

theorem n_loop {Q : Flow → Shared → Prop} (r : Room 7 A) (X : In s₀ R (envOf' 9 q L a cd) m cm N s) (ok : LawOK al) (K : Known w al 0 m cm N) (hNI : ∀ p ∈ N, isIter p.2 = false)
    (hQ : ∀ m' cm' N' s', In s₀ R (envOf' 9 q L a cd) m' cm' N' s' → Q .next s') :
    wpAny (model prog w) A (exec (nth 6 (bodyOf (theDef 9))) (envOf' 9 q L a cd)) Q (fun _ _ => False) s := by
  refine for_src (J := fun i m' cm' N' => Known w al i m' cm' N' ∧ ∀ p ∈ N', isIter p.2 = false) X rfl rfl ?_
  refine X.ex.rangeTo (n := 3) rfl (wpAny_Constant_int ⟨_, rfl, X.ex.tk1, fun rr t u v' s₁ hr X₁ _ => ?_⟩)
  refine ⟨3, _, _, Src.range r.hh hr (by omega), X₁, fun p hp => .inl hp, ⟨K, hNI⟩, fun i m' cm' N' hJ => hJ.2, ?_, fun m' cm' N' s' hJ X' => hQ m' cm' N' s' X'⟩
  intro i v m' cm' N' R' s₂ hi hP hJ X₂
  obtain ⟨tn, rfl⟩ := hP
  obtain ⟨K₂, hNI₂⟩ := hJ
  replace K₂ : Known w al i (upd m' "n" (.int (i : Int) tn)) cm' N' := K₂.to rfl rfl rfl rfl fun p hp => hp
  obtain ⟨Tx, ts, tk, ht1, ht2, ht3⟩ := K₂.texts
  have hl : ∀ x ∈ textsOf al i, x.length ≤ 2 := fun x hx => by rw [texts_len ok.one i x hx]; omega
  have hc := texts_small ok.len (n := i) (by omega)
  refine wpAny_execs_cons (quoted_stmt r.le X₂ ht1 ht2 ht3 hl (by omega) fun Dq qs qk s₃ hqs X₃ => ?_)
  have K₃ : Known w al i (upd (upd m' "n" (.int (i : Int) tn)) "quoted" (.ref Dq)) cm' ((Dq, lst qs.toArray qk) :: N') := K₂.to rfl rfl rfl rfl fun p hp => List.mem_cons_of_mem _ hp
  refine wpAny_execs_cons (ifA (tn := tn) r X₃ ok hi K₃ rfl fun s₄ X₄ => ?_)
  refine wpAny_execs_cons (ifB (tn := tn) r X₄ ok hi K₃ rfl fun s₅ X₅ => ?_)
  refine wpAny_execs_cons (ifC (tn := tn) r X₅ ok hi K₃ rfl rfl List.mem_cons_self hqs fun s₆ X₆ => ?_)
  refine wpAny_execs_cons (ifD r X₆ ok hi K₃ fun s₇ X₇ => ?_)
  refine wpAny_execs_cons (texts_stmt r X₇ ok hi K₃ fun D ys k s₈ hys X₈ => wpAny_execs_nil ⟨rfl, _, _, _, X₈, ?_, iter_cons rfl (iter_cons rfl hNI₂)⟩)
  exact { (K₃.to rfl rfl rfl rfl (fun p hp => List.mem_cons_of_mem _ hp) : Known w al i (upd (upd m' "n" (.int (i : Int) tn)) "quoted" (.ref Dq)) cm' ((D, lst ys.toArray k) :: (Dq, lst qs.toArray qk) :: N')) with texts := ⟨D, ys, k, rfl, List.mem_cons_self, hys⟩ }

theorem law_body {S : Addr} {so : Obj} {vs : List Value} {sn : Nat} {ns : List Int} (r : Room 7 A) (X : In s₀ R (envOf' 9 q L a cd) m cm N s) (hS : m "script" = some (.ref S)) (hSN : (S, so) ∈ N) (hc : so.cls = .type "list") (hd : so.data = .seq vs.toArray sn) (hns : IntsAre vs ns) (hl : ns.length ≤ 63)
    (hNI : ∀ p ∈ N, isIter p.2 = false) (ok : LawOK (alphaOf ns)) :
    wpAny (model prog w) A (execs (bodyOf (theDef 9)) (envOf' 9 q L a cd)) (fun f s' => f = .ret (.bool true) ∧ Keeps s₀ s') (fun _ _ => False) s := by
  -- alphabet = []
  refine wpAny_execs_cons (X.madeC (P := fun vs => vs = []) (mkList rfl (Calls.spliced_nil ⟨rfl, Nat.zero_le _, keeps_refl _⟩)) fun D0 ys0 k0 s₁ _ h0 X₁ => ?_)
  subst h0
  -- the signs
  refine wpAny_execs_cons (alpha_loop r.hh X₁ (S := S) hS (List.mem_cons_of_mem _ hSN) hc hd hns hl rfl List.mem_cons_self .nil (iter_cons rfl hNI) fun m₂ cm₂ N₂ s₂ D ds k X₂ hD hDN hds hNI₂ => ?_)
  -- the first five
  have h8 : ds.length ≤ 100 := by
    rw [strs_length hds]
    have := fold_len (digs ns) []
    simp only [digs, List.length_nil, List.length_append, List.length_take, List.length_cons] at this
    simp only [digs]; omega
  refine wpAny_execs_cons (X₂.madeC (P := fun ys => ys = ds.take 5) (sliceTo (n := 5) rfl (fun Q hQ => X₂.ex.cell_ hD hQ) (isList_lst (X₂.news _ hDN)) (by omega) (fun _ _ => rfl)) fun D3 ys3 k3 s₃ _ h3 X₃ => ?_)
  subst h3
  have hal : StrsAre (ds.take 5) (alphaOf ns) := StrsAre.take' hds 5
  -- plain
  refine wpAny_execs_cons ?_
  with_reducible refine assignLE X₃ ?_ ?_ ?_ ?_
  · rfl
  · rfl
  · rfl
  with_reducible refine Ex.step X₃.ex (dict_pairs (w := w) (fun vs => ∃ t, vs = plainVs t) ?_ ?_ ?_ ?_ ?_ ?_) ?_
  · rfl
  · rfl
  · exact List.cons_ne_nil _ _
  · decide
  · intro s₄ k ht
    with_reducible refine pairTrees_cons_walk (Calls.Constant_str (wpAny_Constant_int (pairTrees_cons_walk (Calls.Constant_str (wpAny_Constant_int (pairTrees_cons_walk (Calls.Constant_str (wpAny_Constant_int (pairTrees_nil_walk ?_)))))))))
    exact ⟨⟨s₄.toks, rfl⟩, keeps_tok _ _⟩
  · rintro vs ⟨t, rfl⟩
    refine ⟨fun p hp => ?_, ?_⟩
    · simp only [List.mem_cons, List.mem_nil_iff, or_false] at hp
      rcases hp with rfl | rfl | rfl <;> exact ⟨_, _, rfl⟩
    · show [Str.ofString "&", Str.ofString "<", Str.ofString ">"].Nodup
      decide
  rintro v s₄ ⟨P, vs', rfl, ⟨tp, rfl⟩, hPa, hSP⟩ k4 X4
  obtain ⟨epP, hgP⟩ := hSP.get
  have hPS : (P == sysModules) = false := by
    have : sysModules < P := hPa ▸ X₃.base.big
    simpa using Nat.ne_of_gt this
  refine ⟨_, X4.add hgP, fun p hp => ?_, fun s₅ X₅ => ?_⟩
  · rcases List.mem_cons.mp hp with rfl | hp
    · exact .inr (.inl (fresh_at (keeps_refl s₃) (Nat.le_of_eq hPa.symm)))
    · exact .inl hp
  -- table
  refine wpAny_execs_cons ?_
  with_reducible refine assignCE (c := L + 1 + 1) X₅ ?_ ?_ ?_ ?_ ?_
  · rfl
  · rfl
  · rfl
  · rfl
  with_reducible refine Ex.step X₅.ex (dict_pairs (w := w) (fun vs => ∃ t, 0 < t ∧ vs = tabVs t) ?_ ?_ ?_ ?_ ?_ ?_) ?_
  · rfl
  · rfl
  · exact List.cons_ne_nil _ _
  · decide
  · intro s₆ k ht
    with_reducible refine pairTrees_cons_walk (Calls.Constant_str (Calls.Constant_str (pairTrees_cons_walk (Calls.Constant_str (Calls.Constant_str (pairTrees_nil_walk ?_))))))
    exact ⟨⟨s₆.toks, Nat.lt_of_lt_of_le X₅.tok ht, rfl⟩, keeps_tok _ _⟩
  · rintro vs ⟨t, _, rfl⟩
    refine ⟨fun p hp => ?_, ?_⟩
    · simp only [List.mem_cons, List.mem_nil_iff, or_false] at hp
      rcases hp with rfl | rfl <;> exact ⟨_, _, rfl⟩
    · show [dq, sq].Nodup
      decide
  rintro v s₆ ⟨Tb, vs', rfl, ⟨tt, ht0, rfl⟩, hTa, hST⟩ k6 X6
  obtain ⟨epT, hgT⟩ := hST.get
  have hTS : (Tb == sysModules) = false := by
    have : sysModules < Tb := hTa ▸ X₅.base.big
    simpa using Nat.ne_of_gt this
  refine ⟨_, X6.add hgT, fun p hp => ?_, fun s₇ X₇ => ?_⟩
  · rcases List.mem_cons.mp hp with rfl | hp
    · exact .inr (.inl (fresh_at (keeps_refl s₅) (Nat.le_of_eq hTa.symm)))
    · exact .inl hp
  -- texts = ['']
  refine wpAny_execs_cons (X₇.madeL (P := fun vs => StrsAre vs [Str.ofString ""]) (mkList rfl (spliced1 (Calls.Constant_str ⟨.cons _ _ .nil, (by decide : 1 ≤ 1000), keeps_tok _ _⟩))) fun D8 ys8 k8 s₈ _ h8 X₈ => ?_)
  refine wpAny_execs_cons (n_loop (al := alphaOf ns) r X₈ ok ?_ (iter_cons rfl (iter_cons rfl (iter_cons rfl (iter_cons rfl hNI₂)))) fun m₉ cm₉ N₉ s₉ X₉ => ?_)
  · exact { alph := ⟨D3, _, k3, rfl, by simp, hal⟩
            plain := ⟨P, rfl, ⟨_, epP, by simp, hSP.keys, hSP.nodup, plain_rep w tp⟩, hPS⟩
            table := ⟨Tb, rfl, ⟨_, epT, by simp, hST.keys, hST.nodup, tab_rep w ht0⟩, hTS⟩
            texts := ⟨D8, _, k8, rfl, List.mem_cons_self, h8⟩ }
  · exact wpAny_execs_cons (wpAny_Return_some (wpAny_Constant_bool ⟨rfl, X₉.keep⟩))
end
end Mine

namespace Mine

section
variable {prog : Program} {w : World} {A : Around} {E : Value → Shared → Prop} {s : Shared}

theorem newEnv1 {scope : Scope} {globals : Addr} {x : Str} {v : Value} {qual : Str} {func : Option Addr} {code : Value} {builtins : Addr} {Q : Env → Shared → Prop} (hk : scope.kind = .function) (hx : scope.names.lookup x = some .local)
    (hQ : ∀ h₁, h₁.Ns s.heap.objs.size (upd (fun _ => none) x v) → CellsOk h₁ (s.heap.objs.size + 1) (cellsFrom (s.heap.objs.size + 1) scope.names []) → (∀ b o, s.heap.get? b = some o → h₁.get? b = some o) →
      Q { scope, locals := s.heap.objs.size, globals, cells := cellsFrom (s.heap.objs.size + 1) scope.names [], qual, func, code, frame := some s.heap.objs.size, builtins } { s with heap := h₁, toks := s.toks + 1 }) :
    wpAny (model prog w) A (newFunctionEnv scope globals [] [(x, v)] qual func code none builtins) Q E s := by
  simp only [newFunctionEnv, Option.isSome_none, Bool.false_eq_true, if_false]
  refine wpAny_bind (wpAny_alloc ?_)
  refine wpAny_bind (wpAny_layCells _ (fun name kind cells => by cases hkc : kind == NameKind.cell <;> simp) _ _ _ _ ?_)
  have ok := cellsFrom_ok scope.names (s.heap.push { cls := .type "frame", data := .dict #[] }) (s.heap.objs.size + 1) [] ⟨fun _ _ hm => (nomatch hm), List.Pairwise.nil⟩ (by rw [Heap.size_push]; exact Nat.le_refl _)
  rw [Heap.size_push] at ok
  rw [show ({ s with heap := s.heap.push { cls := .type "frame", data := .dict #[] } } : Shared).heap.objs.size = s.heap.objs.size + 1 from Heap.size_push ..]
  have hn := (Heap.Ns.new s.heap (.type "frame")).keeps (pushCells_keeps scope.names _)
  have k0 : ∀ b o, s.heap.get? b = some o → (pushCells (s.heap.push { cls := .type "frame", data := .dict #[] }) scope.names).get? b = some o := fun b o e => pushCells_keeps _ _ b o (Heap.get?_push_of_some _ e)
  simp only [List.forIn_cons, List.forIn_nil]
  refine wpAny_bind (wpAny_bind (wpAny_bind (wpAny_storeName_local hx hn (fun h' hn' hs' => wpAny_pure (wpAny_pure (wpAny_pure ?_))) (by rw [hk]; rfl))))
  refine hQ h' hn' ?_ fun b o e => hs'.extBut b o (Nat.ne_of_lt (Heap.lt_size e)) (k0 b o e)
  exact ⟨fun n c hm => ⟨(ok.empty n c hm).1.sameBut hs' (Nat.ne_of_gt (Nat.lt_of_succ_le (ok.empty n c hm).2)), (ok.empty n c hm).2⟩, ok.apart⟩

theorem call_law {a S : Addr} {so : Obj} {vs : List Value} {sn : Nat} {ns : List Int} (r : Room 8 A) (hB : Base s.heap) (hf : FnAt s.heap a 9 .none)
    (hS : s.heap.get? S = some so) (hc : so.cls = .type "list") (hd : so.data = .seq vs.toArray sn) (hns : IntsAre vs ns) (hl : ns.length ≤ 63) (ok : LawOK (alphaOf ns)) :
    wpAny (model prog w) A (call (.ref a) [.ref S]) (fun v s' => v = .bool true ∧ Keeps s s') (fun _ _ => False) s := by
  obtain ⟨o, nm, q, doc, pm, cd, ct, an, ho, hdt, hcd⟩ := hf.at_
  have hb : BindsTo s (mkFd 9 nm q .none doc pm cd ct an) ⟨[.ref S], []⟩ [(Str.ofString "script", .ref S)] := BindsTo.of_eq rfl
  refine wpAny_call (codeAny_call_function r.depth ho hdt rfl rfl rfl hcd (hb _ _ _ _ ?_))
  refine newEnv1 (x := "script") rfl rfl fun h₁ hn₁ ok₁ hk₁ => ?_
  have kk : Keeps s { s with heap := h₁, toks := s.toks + 1 } := ⟨h₁, _, rfl, hk₁⟩
  refine ⟨hB.lim.keeps hk₁, codeAny_func ?_⟩
  have X : In s s.heap (envOf' 9 q s.heap.objs.size a cd) (upd (fun _ => none) "script" (.ref S)) (fun _ => none) [(S, so)] { s with heap := h₁, toks := s.toks + 1 } :=
    { toEx := ⟨kk, hn₁, fun n c hc => (ok₁.empty n c (mem_of_lookup hc)).1, fun p hp => by rw [List.mem_singleton.mp hp]; exact hk₁ _ _ hS, hB.keeps hk₁, Nat.succ_pos _⟩, base0 := hB, fresh := Nat.le_refl _
      apart := fun n n' c h1 h2 => name_of_addr ok₁.apart (mem_of_lookup h1) (mem_of_lookup h2)
      above := fun n c h1 => Nat.lt_of_succ_le (ok₁.empty n c (mem_of_lookup h1)).2
      off := fun p hp => by
        rw [List.mem_singleton.mp hp]
        have hlt := Heap.lt_size hS
        exact ⟨Nat.ne_of_lt hlt, fun n c hc => Nat.ne_of_lt (Nat.lt_trans hlt (Nat.lt_of_succ_le (ok₁.empty n c (mem_of_lookup hc)).2))⟩
      since := fun b o _ _ e => hk₁ b o e }
  refine wpAny_mono (law_body (S := S) (so := so) (r.deeper _) X rfl List.mem_cons_self hc hd hns hl (fun p hp => ?_) ok) (fun f s₂ hq => ?_) fun _ _ f => f.elim
  · rw [List.mem_singleton.mp hp]
    show (so.cls == _ || so.cls == _) = false
    rw [hc]; rfl
  · obtain ⟨rfl, k⟩ := hq
    exact ⟨rfl, k⟩
end
end Mine

namespace Mine

/-! ## the plain law: finite facts -/
def tens : List Str := (List.range 10).map fun (i : Nat) => (⟨#[sgs.cps.getD i 0]⟩ : Str)
def sw (w : Str → Int) (x : Str) : Int := (x.cps.toList.map fun c => w ⟨#[c]⟩).sum
def allIn (p : Str → Bool) (x : Str) : Bool := x.cps.toList.all fun c => p ⟨#[c]⟩
def noD (x : Str) : Bool := !hasSub dq x
def noS (x : Str) : Bool := !hasSub sq x
def noDS (x : Str) : Bool := !hasSub dqsq x
def noE (x : Str) : Bool := !hasSub (Str.ofString "") x
def quoW (t : Str) : Int := if allIn noD t then sw (wOf bareKv) t else if allIn noS t then sw (wOf bareKv) t else sw (wOf markedKv) t

theorem fact_noE : ∀ x ∈ tens, noE x = true := by decide +kernel
theorem fact_noDS : ∀ x ∈ tens, noDS x = (noD x && noS x) := by decide +kernel
theorem fact_w : ∀ x ∈ tens, (1 ≤ wOf plainKv x ∧ wOf plainKv x < 7) ∧ (1 ≤ wOf tabW x ∧ wOf tabW x < 7) ∧ (1 ≤ wOf bareKv x ∧ wOf bareKv x < 7) ∧ (1 ≤ wOf markedKv x ∧ wOf markedKv x < 7) := by decide +kernel
theorem fact_one : ∀ x ∈ tens, ∃ c, x = ⟨#[c]⟩ := by
  intro x hx
  obtain ⟨i, _, rfl⟩ := List.mem_map.mp hx
  exact ⟨_, rfl⟩
end Mine

namespace Mine

/-! ## powers of a row count the sums -/
def sums (A : List Int) : Nat → List Int
  | 0 => [0]
  | n + 1 => (sums A n).flatMap fun t => A.map (t + ·)
abbrev ct (k : Int) (l : List Int) : Int := ((l.count k : Nat) : Int)

theorem ct_cons (k a : Int) (l : List Int) : ct k (a :: l) = ct k l + if a = k then 1 else 0 := by
  unfold ct
  rw [List.count_cons]
  by_cases h : a = k <;> simp [h]
theorem ct_append (k : Int) (l r : List Int) : ct k (l ++ r) = ct k l + ct k r := by
  unfold ct; rw [List.count_append]; omega
theorem ct_zero {k : Int} {l : List Int} (h : k ∉ l) : ct k l = 0 := by
  unfold ct; rw [List.count_eq_zero.mpr h]; rfl

theorem cross_cons (k a : Int) (A : List Int) : ∀ P : List Int, ct k (P.flatMap fun t => (a :: A).map (t + ·)) = ct (k - a) P + ct k (P.flatMap fun t => A.map (t + ·))
  | [] => by simp [ct]
  | t :: P => by
    rw [List.flatMap_cons, List.flatMap_cons, ct_append, ct_append, List.map_cons, ct_cons, ct_cons, cross_cons k a A P]
    by_cases h : t + a = k
    · rw [if_pos h, if_pos (by omega : t = k - a)]; omega
    · rw [if_neg h, if_neg (by omega : ¬ t = k - a)]; omega
theorem iv7 : iv 7 = [0, 1, 2, 3, 4, 5, 6] := rfl
theorem conv_sum (k : Int) (P : List Int) : ∀ A : List Int, (∀ a ∈ A, 0 ≤ a ∧ a < 7) → ((iv 7).map fun i => ct i A * ct (k - i) P).sum = ct k (P.flatMap fun t => A.map (t + ·))
  | [], _ => by
    have h1 : ct k (P.flatMap fun t => ([] : List Int).map (t + ·)) = 0 := by
      apply ct_zero
      simp
    rw [h1, iv7]
    simp [ct]
  | a :: A, h => by
    have ih := conv_sum k P A fun x hx => h x (List.mem_cons_of_mem _ hx)
    have ha := h a List.mem_cons_self
    rw [cross_cons, ← ih, iv7]
    simp only [List.map_cons, List.map_nil, List.sum_cons, List.sum_nil, ct_cons, Int.add_mul]
    have : a = 0 ∨ a = 1 ∨ a = 2 ∨ a = 3 ∨ a = 4 ∨ a = 5 ∨ a = 6 := by omega
    rcases this with rfl | rfl | rfl | rfl | rfl | rfl | rfl <;> simp <;> omega
theorem sum_filter (f : Int → Int) (p : Int → Bool) : ∀ l : List Int, ((l.filter p).map f).sum = (l.map fun i => if p i = true then f i else 0).sum
  | [] => rfl
  | a :: l => by
    rw [List.filter_cons, List.map_cons, List.sum_cons]
    by_cases h : p a = true
    · rw [if_pos h, if_pos h, List.map_cons, List.sum_cons, sum_filter f p l]
    · rw [if_neg h, if_neg h, sum_filter f p l, Int.zero_add]
theorem cnt_getD {A : List Int} {n i : Nat} (h : i < n) : (cnt A n).getD i 0 = ct i A := by
  unfold cnt
  rw [List.getD_eq_getElem?_getD, List.getElem?_map, List.getElem?_range h]; rfl
theorem cnt_length (A : List Int) (n : Nat) : (cnt A n).length = n := by simp [cnt]

theorem conv {P A : List Int} {m : Nat} (hA : ∀ a ∈ A, 0 ≤ a ∧ a < 7) (hP : ∀ p ∈ P, 0 ≤ p ∧ p < (6 * m + 1 : Nat)) :
    pstep (cnt A 7) (cnt P (6 * m + 1)) = cnt (P.flatMap fun t => A.map (t + ·)) (6 * (m + 1) + 1) := by
  unfold pstep
  rw [cnt_length]
  unfold iv
  rw [List.map_map]
  unfold cnt
  rw [show 6 * m + 1 + 6 = 6 * (m + 1) + 1 by omega]
  refine List.map_congr_left fun k hk => ?_
  rw [Function.comp_apply]
  have := conv_sum (k : Int) P A hA
  refine Eq.trans ?_ this
  rw [sum_filter]
  refine congrArg List.sum (List.map_congr_left fun i hi => ?_)
  rw [List.mem_map] at hi
  obtain ⟨j, hj, rfl⟩ := hi
  rw [List.mem_range] at hj
  have e1 : (cnt A 7).getD j 0 = ct j A := cnt_getD hj
  by_cases hf : fits (cnt P (6 * m + 1)) k j = true
  · have hf' := hf
    rw [fits, cnt_length] at hf'
    simp only [Bool.and_eq_true, decide_eq_true_eq] at hf'
    change (if fits (cnt P (6 * m + 1)) k j = true then term (cnt A 7) (cnt P (6 * m + 1)) k j else 0) = _
    rw [if_pos hf]
    have hn : ((k : Int) - (j : Int)).toNat < 6 * m + 1 := by omega
    have e2 : (cnt P (6 * m + 1)).getD ((k : Int) - (j : Int)).toNat 0 = ct (((k : Int) - (j : Int)).toNat : Nat) P := cnt_getD hn
    unfold term
    rw [e2, Int.toNat_natCast, e1, show ((((k : Int) - (j : Int)).toNat : Nat) : Int) = (k : Int) - (j : Int) by omega]
  · change (if fits (cnt P (6 * m + 1)) k j = true then term (cnt A 7) (cnt P (6 * m + 1)) k j else 0) = _
    rw [if_neg hf]
    rw [fits, cnt_length] at hf
    simp only [Bool.and_eq_true, decide_eq_true_eq] at hf
    rw [ct_zero (k := (k : Int) - (j : Int)), Int.mul_zero]
    intro hm
    have := hP _ hm
    omega
theorem sums_range {A : List Int} (hA : ∀ a ∈ A, 0 ≤ a ∧ a < 7) : ∀ n, ∀ p ∈ sums A n, 0 ≤ p ∧ p < (6 * n + 1 : Nat)
  | 0, p, hp => by rw [sums, List.mem_singleton] at hp; subst hp; decide
  | n + 1, p, hp => by
    rw [sums, List.mem_flatMap] at hp
    obtain ⟨t, ht, hp⟩ := hp
    obtain ⟨a, ha, rfl⟩ := List.mem_map.mp hp
    have h1 := sums_range hA n t ht
    have h2 := hA a ha
    omega
theorem powOf_sums {A : List Int} (hA : ∀ a ∈ A, 0 ≤ a ∧ a < 7) : ∀ n, powOf (cnt A 7) n = cnt (sums A n) (6 * n + 1)
  | 0 => by rfl
  | n + 1 => by rw [powOf, powOf_sums hA n, conv hA (sums_range hA n)]; rfl
end Mine

namespace Mine

/-! ## texts of a part of the alphabet -/
def Single (al : List Str) : Prop := ∀ x ∈ al, ∃ c, x = ⟨#[c]⟩

theorem cps_app (a b : Str) : (a ++ b).cps.toList = a.cps.toList ++ b.cps.toList := by
  show (a.cps ++ b.cps).toList = _
  simp
theorem sw_app (w : Str → Int) (a b : Str) : sw w (a ++ b) = sw w a + sw w b := by
  unfold sw; rw [cps_app, List.map_append, List.sum_append]
theorem allIn_app (p : Str → Bool) (a b : Str) : allIn p (a ++ b) = (allIn p a && allIn p b) := by
  unfold allIn; rw [cps_app, List.all_append]
theorem sw_one (w : Str → Int) (c : Nat) : sw w ⟨#[c]⟩ = w ⟨#[c]⟩ := by simp [sw]
theorem allIn_one (p : Str → Bool) (c : Nat) : allIn p ⟨#[c]⟩ = p ⟨#[c]⟩ := by simp [allIn]

theorem cross_filter (w : Str → Int) (p : Str → Bool) {al : List Str} (hs : Single al) (a : Str) :
    (((al.map (a ++ ·)).filter (allIn p)).map (sw w)) = if allIn p a = true then ((al.filter p).map w).map (sw w a + ·) else [] := by
  induction al with
  | nil => simp
  | cons x l ih =>
    obtain ⟨c, rfl⟩ := hs x List.mem_cons_self
    have ih := ih fun y hy => hs y (List.mem_cons_of_mem _ hy)
    rw [List.map_cons, List.filter_cons, allIn_app, allIn_one]
    by_cases ha : allIn p a = true
    · rw [if_pos ha] at ih ⊢
      rw [ha, Bool.true_and, List.filter_cons]
      by_cases hp : p ⟨#[c]⟩ = true
      · rw [if_pos hp, if_pos hp, List.map_cons, List.map_cons, List.map_cons, ih, sw_app, sw_one]
      · rw [if_neg hp, if_neg hp, ih]
    · rw [if_neg ha] at ih ⊢
      rw [show (allIn p a && p ⟨#[c]⟩) = false by simp [ha]]
      simpa using ih
theorem flat_filter (w : Str → Int) (p : Str → Bool) {al : List Str} (hs : Single al) : ∀ T : List Str, ((crossed T al).filter (allIn p)).map (sw w) = ((T.filter (allIn p)).map (sw w)).flatMap fun t => ((al.filter p).map w).map (t + ·)
  | [] => rfl
  | a :: T => by
    have ih := flat_filter w p hs T
    unfold crossed at ih ⊢
    rw [List.flatMap_cons, List.filter_append, List.map_append, cross_filter w p hs, ih, List.filter_cons]
    by_cases ha : allIn p a = true
    · rw [if_pos ha, if_pos ha, List.map_cons, List.flatMap_cons]
    · rw [if_neg ha, if_neg ha, List.nil_append]
theorem sums_texts (w : Str → Int) (p : Str → Bool) {al : List Str} (hs : Single al) : ∀ n, sums ((al.filter p).map w) n = ((textsOf al n).filter (allIn p)).map (sw w)
  | 0 => rfl
  | n + 1 => by rw [sums, sums_texts w p hs n, textsOf, flat_filter w p hs]

theorem texts_all {al : List Str} (P : Str → Prop) (h0 : P (Str.ofString "")) (h1 : ∀ a b, P a → b ∈ al → P (a ++ b)) : ∀ n, ∀ t ∈ textsOf al n, P t
  | 0, t, ht => by rw [textsOf, List.mem_singleton] at ht; exact ht ▸ h0
  | n + 1, t, ht => by
    rw [textsOf, crossed, List.mem_flatMap] at ht
    obtain ⟨a, ha, ht⟩ := ht
    obtain ⟨b, hb, rfl⟩ := List.mem_map.mp ht
    exact h1 a b (texts_all P h0 h1 n a ha) hb

theorem app_one_inj {a b : Str} {c d : Nat} (h : a ++ (⟨#[c]⟩ : Str) = b ++ ⟨#[d]⟩) : a = b ∧ c = d := by
  have e : (a ++ (⟨#[c]⟩ : Str)).cps.toList = (b ++ (⟨#[d]⟩ : Str)).cps.toList := by rw [h]
  rw [cps_app, cps_app] at e
  have e1 : a.cps.toList ++ [c] = b.cps.toList ++ [d] := e
  have := List.append_inj' e1 rfl
  refine ⟨?_, by simpa using this.2⟩
  cases a; cases b
  have h2 := this.1
  simp only at h2
  congr
  exact Array.ext' h2
theorem texts_nodup {al : List Str} (hs : Single al) (hn : al.Nodup) : ∀ n, (textsOf al n).Nodup
  | 0 => by simp [textsOf]
  | n + 1 => by
    rw [textsOf, crossed, List.Nodup, List.pairwise_flatMap]
    constructor
    · intro a _
      rw [List.pairwise_map]
      refine List.Pairwise.imp_of_mem (fun {x y} hx hy hne he => hne ?_) hn
      obtain ⟨c, rfl⟩ := hs x hx
      obtain ⟨d, rfl⟩ := hs y hy
      rw [(app_one_inj he).2]
    · refine List.Pairwise.imp_of_mem (fun {a b} _ _ hne x hx y hy he => hne ?_) (texts_nodup hs hn n)
      obtain ⟨x', hx', rfl⟩ := List.mem_map.mp hx
      obtain ⟨y', hy', rfl⟩ := List.mem_map.mp hy
      obtain ⟨c, rfl⟩ := hs x' hx'
      obtain ⟨d, rfl⟩ := hs y' hy'
      exact (app_one_inj he).1
/-! ## the alphabet -/
theorem sgn_tens (v : Int) : sgn v ∈ tens := by
  have h0 : 0 ≤ v.fmod 10 := Int.fmod_nonneg_of_pos _ (by decide)
  have h1 : v.fmod 10 < 10 := Int.fmod_lt_of_pos _ (by decide)
  exact List.mem_map.mpr ⟨(v.fmod 10).toNat, List.mem_range.mpr (by omega), rfl⟩
theorem astep_good {al : List Str} {v : Int} (hn : al.Nodup) (ht : ∀ x ∈ al, x ∈ tens) : (astep al v).Nodup ∧ ∀ x ∈ astep al v, x ∈ tens := by
  unfold astep
  by_cases h : al.any (· == sgn v) = true
  · rw [List.filter_cons, show (!(al.any (· == sgn v))) = false by simp [h]]
    simpa using ⟨hn, ht⟩
  · rw [List.filter_cons, show (!(al.any (· == sgn v))) = true by simp [h]]
    simp only [if_true, List.filter_nil]
    have hm : sgn v ∉ al := fun hm => h (List.any_eq_true.mpr ⟨_, hm, by simp⟩)
    refine ⟨List.nodup_append.mpr ⟨hn, by simp, fun a ha b hb e => hm ?_⟩, fun x hx => ?_⟩
    · rw [List.mem_singleton] at hb; rw [← hb, ← e]; exact ha
    · rcases List.mem_append.mp hx with hx | hx
      · exact ht x hx
      · rw [List.mem_singleton.mp hx]; exact sgn_tens v
theorem fold_good : ∀ (ds : List Int) (al : List Str), al.Nodup → (∀ x ∈ al, x ∈ tens) → (ds.foldl astep al).Nodup ∧ ∀ x ∈ ds.foldl astep al, x ∈ tens
  | [], al, h1, h2 => ⟨h1, h2⟩
  | d :: ds, al, h1, h2 => by
    have := astep_good (v := d) h1 h2
    exact fold_good ds _ this.1 this.2
theorem alpha_good (ns : List Int) : (alphaOf ns).Nodup ∧ (∀ x ∈ alphaOf ns, x ∈ tens) ∧ (alphaOf ns).length ≤ 5 := by
  have := fold_good (digs ns) [] .nil (fun x hx => by cases hx)
  exact ⟨(List.take_sublist _ _).nodup this.1, fun x hx => this.2 x (List.mem_of_mem_take hx), by unfold alphaOf; simp; omega⟩
end Mine

namespace Mine

/-! ## what the code writes, sign by sign -/
abbrev L (x : Str) : List Nat := x.cps.toList
def sub (c : Nat) (z l : List Nat) : List Nat := l.flatMap fun d => if d = c then z else [d]
theorem sub_free (c : Nat) (z : List Nat) : ∀ l : List Nat, c ∉ l → sub c z l = l
  | [], _ => rfl
  | k :: r, h => by
    have h1 : ¬ k = c := fun e => h (e ▸ List.mem_cons_self)
    have ih := sub_free c z r fun m => h (List.mem_cons_of_mem _ m)
    unfold sub at ih ⊢
    rw [List.flatMap_cons, if_neg h1, ih]; rfl
theorem sub_app (c : Nat) (z a b : List Nat) : sub c z (a ++ b) = sub c z a ++ sub c z b := by simp [sub]
theorem sub_join (c : Nat) (z : Str) : ∀ parts : List Str, (∀ p ∈ parts, c ∉ L p) → sub c (L z) (L (Str.join ⟨#[c]⟩ parts)) = L (Str.join z parts)
  | [], _ => rfl
  | [p], h => sub_free c _ _ (h p (List.mem_singleton.mpr rfl))
  | p :: q :: r, h => by
    have ih := sub_join c z (q :: r) fun a ha => h a (List.mem_cons_of_mem _ ha)
    show sub c (L z) (L (p ++ ⟨#[c]⟩ ++ Str.join ⟨#[c]⟩ (q :: r))) = L (p ++ z ++ Str.join z (q :: r))
    simp only [L, cps_app]
    rw [sub_app, sub_app, ih, sub_free c _ _ (h p List.mem_cons_self)]
    have : sub c z.cps.toList [c] = z.cps.toList := by simp [sub]
    show _ ++ sub c z.cps.toList [c] ++ _ = _
    rw [this]
theorem replace_sub (x z : Str) (c : Nat) : L (Txt.replace x ⟨#[c]⟩ z) = sub c (L z) (L x) := by
  rw [StrLaws.replace_one, ← sub_join c z _ (StrLaws.split_free x c), StrLaws.join_split]
theorem replace_code {x y z : Str} {c : Nat} {g : Nat → List Nat} {v : Str} (hv : v = ⟨#[c]⟩) (h : L y = (L x).flatMap g) : L (Txt.replace y v z) = (L x).flatMap fun d => sub c (L z) (g d) := by
  subst hv
  rw [replace_sub, h]
  unfold sub
  rw [List.flatMap_assoc]

def escG (d : Nat) : List Nat := sub 60 (L lt) (sub 62 (L gt) (sub 38 (L amp) [d]))
def escTG (d : Nat) : List Nat := sub 39 (L (Str.ofString "&#39;")) (sub 34 (L (Str.ofString "&quot;")) (escG d))
def quoG (d : Nat) : List Nat := sub 9 (L (Str.ofString "&#9;")) (sub 13 (L (Str.ofString "&#13;")) (sub 10 (L (Str.ofString "&#10;")) (escG d)))
def markG (d : Nat) : List Nat := sub 34 (L (Str.ofString "&quot;")) (quoG d)
theorem esc_code (x : Str) : L (esc x) = (L x).flatMap escG := by
  have h0 : L x = (L x).flatMap fun d => [d] := by simp
  exact replace_code (c := 60) (by decide) (replace_code (c := 62) (by decide) (replace_code (c := 38) (by decide) h0))
theorem escT_code (x : Str) : L (escT x) = (L x).flatMap escTG :=
  replace_code (c := 39) (by decide) (replace_code (c := 34) (by decide) (esc_code x))
theorem quo1_code (x : Str) : L (quo1 x) = (L x).flatMap quoG :=
  replace_code (c := 9) (by decide) (replace_code (c := 13) (by decide) (replace_code (c := 10) (by decide) (esc_code x)))
theorem mark_code (x : Str) : L (Txt.replace (quo1 x) dq (Str.ofString "&quot;")) = (L x).flatMap markG := replace_code (c := 34) (by decide) (quo1_code x)

def tenC : List Nat := [38, 60, 62, 34, 39, 10, 13, 9, 97, 59]
theorem tens_eq : tens = tenC.map fun c => (⟨#[c]⟩ : Str) := by decide
theorem fc_esc : ∀ c ∈ tenC, ((escG c).length : Int) = wOf plainKv ⟨#[c]⟩ := by decide +kernel
theorem fc_escT : ∀ c ∈ tenC, ((escTG c).length : Int) = wOf tabW ⟨#[c]⟩ := by decide +kernel
theorem fc_quo : ∀ c ∈ tenC, ((quoG c).length : Int) = wOf bareKv ⟨#[c]⟩ := by decide +kernel
theorem fc_mark : ∀ c ∈ tenC, ((markG c).length : Int) = wOf markedKv ⟨#[c]⟩ := by decide +kernel
theorem fc_noD : ∀ c ∈ tenC, noD ⟨#[c]⟩ = !decide (34 ∈ quoG c) := by decide +kernel
theorem fc_noS : ∀ c ∈ tenC, noS ⟨#[c]⟩ = !decide (39 ∈ quoG c) := by decide +kernel
theorem fc_same : ∀ c ∈ tenC, noD ⟨#[c]⟩ = true → quoG c = markG c := by decide +kernel
abbrev Apart (g : Nat → List Nat) : Prop := ∀ c ∈ tenC, g c ≠ [] ∧ ∀ d ∈ tenC, (g c).take (min (g c).length (g d).length) = (g d).take (min (g c).length (g d).length) → c = d
theorem fc_escT_apart : Apart escTG := by decide +kernel
theorem fc_quo_apart : Apart quoG := by decide +kernel
theorem fc_mark_apart : Apart markG := by decide +kernel

/-- a code in which no word begins another -/
theorem code_inj {g : Nat → List Nat} (hg : Apart g) : ∀ {l l' : List Nat}, (∀ c ∈ l, c ∈ tenC) → (∀ c ∈ l', c ∈ tenC) → l.flatMap g = l'.flatMap g → l = l'
  | [], [], _, _, _ => rfl
  | [], d :: l', _, h', e => by
    rw [List.flatMap_cons, List.flatMap_nil] at e
    exact absurd (List.append_eq_nil_iff.mp e.symm).1 (hg d (h' d List.mem_cons_self)).1
  | c :: l, [], h, _, e => by
    rw [List.flatMap_cons, List.flatMap_nil] at e
    exact absurd (List.append_eq_nil_iff.mp e).1 (hg c (h c List.mem_cons_self)).1
  | c :: l, d :: l', h, h', e => by
    rw [List.flatMap_cons, List.flatMap_cons] at e
    have hcd : c = d := by
      refine (hg c (h c List.mem_cons_self)).2 d (h' d List.mem_cons_self) ?_
      have := congrArg (List.take (min (g c).length (g d).length)) e
      rwa [List.take_append_of_le_length (Nat.min_le_left _ _), List.take_append_of_le_length (Nat.min_le_right _ _)] at this
    subst hcd
    rw [code_inj hg (fun x hx => h x (List.mem_cons_of_mem _ hx)) (fun x hx => h' x (List.mem_cons_of_mem _ hx)) (List.append_cancel_left e)]

theorem len_list {g : Nat → List Nat} {w : Str → Int} : ∀ l : List Nat, (∀ c ∈ l, ((g c).length : Int) = w ⟨#[c]⟩) → ((l.flatMap g).length : Int) = (l.map fun c => w ⟨#[c]⟩).sum
  | [], _ => rfl
  | c :: l, h => by
    rw [List.flatMap_cons, List.length_append, List.map_cons, List.sum_cons, ← len_list l fun d hd => h d (List.mem_cons_of_mem _ hd), ← h c List.mem_cons_self]
    omega
theorem len_code {x y : Str} {g : Nat → List Nat} {w : Str → Int} (h : L y = (L x).flatMap g) (hw : ∀ c ∈ L x, ((g c).length : Int) = w ⟨#[c]⟩) : slen y = sw w x := by
  have e : slen y = (((L x).flatMap g).length : Int) := by rw [← h]; simp [slen, L, Str.length]
  rw [e]
  exact len_list (L x) hw
theorem found_list {g : Nat → List Nat} {k : Nat} {p : Str → Bool} : ∀ l : List Nat, (∀ c ∈ l, p ⟨#[c]⟩ = !decide (k ∈ g c)) → decide (k ∈ l.flatMap g) = !l.all fun c => p ⟨#[c]⟩
  | [], _ => by simp
  | c :: l, h => by
    have ih := found_list l fun d hd => h d (List.mem_cons_of_mem _ hd)
    rw [List.flatMap_cons, List.all_cons, h c List.mem_cons_self, Bool.not_and, Bool.not_not, ← ih]
    by_cases h1 : k ∈ g c <;> by_cases h2 : k ∈ l.flatMap g <;> simp [h1, h2]
theorem found_code {x y : Str} {g : Nat → List Nat} {k : Nat} {p : Str → Bool} {v : Str} (hv : v = ⟨#[k]⟩) (h : L y = (L x).flatMap g) (hp : ∀ c ∈ L x, p ⟨#[c]⟩ = !decide (k ∈ g c)) : hasSub y v = !allIn p x := by
  subst hv
  unfold hasSub
  rw [StrLaws.found_one]
  show decide (k ∈ L y) = _
  rw [h]
  exact found_list (L x) hp

def Ten (x : Str) : Prop := ∀ c ∈ L x, c ∈ tenC
theorem ten_of {al : List Str} (h : ∀ x ∈ al, x ∈ tens) (n : Nat) : ∀ t ∈ textsOf al n, Ten t := by
  refine texts_all Ten (fun c hc => by cases hc) (fun a b ha hb c hc => ?_) n
  rw [L, cps_app, List.mem_append] at hc
  rcases hc with hc | hc
  · exact ha c hc
  · have := h b hb
    rw [tens_eq, List.mem_map] at this
    obtain ⟨d, hd, rfl⟩ := this
    have : c = d := by simpa using hc
    exact this ▸ hd
theorem str_ext {a b : Str} (h : L a = L b) : a = b := by
  cases a; cases b
  simp only [L] at h
  congr
  exact Array.ext' h

theorem esc_slen {t : Str} (h : Ten t) : slen (esc t) = sw (wOf plainKv) t := len_code (esc_code t) fun c hc => fc_esc c (h c hc)
theorem escT_slen {t : Str} (h : Ten t) : slen (escT t) = sw (wOf tabW) t := len_code (escT_code t) fun c hc => fc_escT c (h c hc)
theorem quo_dq {t : Str} (h : Ten t) : hasSub (quo1 t) dq = !allIn noD t := found_code (k := 34) (by decide) (quo1_code t) fun c hc => fc_noD c (h c hc)
theorem quo_sq {t : Str} (h : Ten t) : hasSub (quo1 t) sq = !allIn noS t := found_code (k := 39) (by decide) (quo1_code t) fun c hc => fc_noS c (h c hc)
theorem quo_slen {t : Str} (h : Ten t) : slen (quo t) = 2 + quoW t := by
  have h1 : slen (quo1 t) = sw (wOf bareKv) t := len_code (quo1_code t) fun c hc => fc_quo c (h c hc)
  have h2 : slen (Txt.replace (quo1 t) dq (Str.ofString "&quot;")) = sw (wOf markedKv) t := len_code (mark_code t) fun c hc => fc_mark c (h c hc)
  have d : dq.length = 1 := by decide
  have e : sq.length = 1 := by decide
  unfold quo quoW
  rw [quo_dq h, quo_sq h, ← h1, ← h2]
  cases allIn noD t <;> cases allIn noS t <;> simp only [Bool.not_true, Bool.not_false, if_true, Bool.false_eq_true, if_false, slen, len_append, d, e] <;> omega

theorem escT_inj {a b : Str} (ha : Ten a) (hb : Ten b) (e : escT a = escT b) : a = b := by
  have := congrArg L e
  rw [escT_code, escT_code] at this
  exact str_ext (code_inj fc_escT_apart ha hb this)
/-- a mark, what is written, the mark -/
theorem quo_shape {t : Str} (h : Ten t) : L (quo t) = 34 :: ((L t).flatMap markG ++ [34]) ∨ L (quo t) = 39 :: ((L t).flatMap quoG ++ [39]) := by
  have d : L dq = [34] := by decide
  have e : L sq = [39] := by decide
  unfold quo
  rw [quo_dq h, quo_sq h]
  cases hD : allIn noD t with
  | true =>
    left
    have same : (L t).flatMap quoG = (L t).flatMap markG := by
      unfold allIn at hD
      rw [List.all_eq_true] at hD
      have h' : ∀ c ∈ L t, quoG c = markG c := fun c hc => fc_same c (h c hc) (hD c hc)
      clear hD h
      revert h'
      induction L t with
      | nil => intro _; rfl
      | cons c l ih => intro h'; rw [List.flatMap_cons, List.flatMap_cons, h' c List.mem_cons_self, ih fun x hx => h' x (List.mem_cons_of_mem _ hx)]
    rw [← same, ← quo1_code]
    simp only [Bool.not_true, Bool.false_eq_true, if_false, L, cps_app]
    simp only [L] at d
    rw [d]; simp
  | false =>
    cases hS : allIn noS t with
    | true =>
      right
      rw [← quo1_code]
      simp only [Bool.not_true, Bool.not_false, Bool.false_eq_true, if_false, if_true, L, cps_app]
      simp only [L] at e
      rw [e]; simp
    | false =>
      left
      rw [← mark_code]
      simp only [Bool.not_false, if_true, L, cps_app]
      simp only [L] at d
      rw [d]; simp
theorem quo_inj {a b : Str} (ha : Ten a) (hb : Ten b) (e : quo a = quo b) : a = b := by
  have e' := congrArg L e
  rcases quo_shape ha with h1 | h1 <;> rcases quo_shape hb with h2 | h2 <;> rw [h1, h2] at e' <;> simp only [List.cons.injEq] at e'
  · exact str_ext (code_inj fc_mark_apart ha hb (List.append_inj' e'.2 rfl).1)
  · exact absurd e'.1 (by decide)
  · exact absurd e'.1 (by decide)
  · exact str_ext (code_inj fc_quo_apart ha hb (List.append_inj' e'.2 rfl).1)
end Mine

namespace Mine

theorem tens_single {al : List Str} (h : ∀ x ∈ al, x ∈ tens) : Single al := fun x hx => fact_one x (h x hx)
theorem row_pow {al : List Str} (h : ∀ x ∈ al, x ∈ tens) {kvs : List (Str × Int)} (hw : ∀ x ∈ tens, 1 ≤ wOf kvs x ∧ wOf kvs x < 7) (wo : Str) (n : Nat) :
    powOf (rowOf kvs wo al) n = cnt (((textsOf al n).filter (allIn fun x => !hasSub wo x)).map (sw (wOf kvs))) (6 * n + 1) := by
  unfold rowOf
  rw [powOf_sums, sums_texts _ _ (tens_single h)]
  intro a ha
  obtain ⟨x, hx, rfl⟩ := List.mem_map.mp ha
  have := hw x (h x (List.mem_filter.mp hx).1)
  omega
theorem filter_all {T : List Str} {p : Str → Bool} (h : ∀ t ∈ T, p t = true) : T.filter p = T := List.filter_eq_self.mpr h
theorem all_noE {al : List Str} (h : ∀ x ∈ al, x ∈ tens) (n : Nat) : ∀ t ∈ textsOf al n, allIn noE t = true := by
  refine texts_all (fun t => allIn noE t = true) rfl (fun a b ha hb => ?_) n
  rw [allIn_app, ha, Bool.true_and]
  obtain ⟨c, rfl⟩ := tens_single h b hb
  rw [allIn_one]
  exact fact_noE _ (h _ hb)
theorem all_noDS {al : List Str} (h : ∀ x ∈ al, x ∈ tens) (n : Nat) : ∀ t ∈ textsOf al n, allIn noDS t = (allIn noD t && allIn noS t) := by
  refine texts_all (fun t => allIn noDS t = (allIn noD t && allIn noS t)) rfl (fun a b ha hb => ?_) n
  rw [allIn_app, allIn_app, allIn_app, ha]
  obtain ⟨c, rfl⟩ := tens_single h b hb
  rw [allIn_one, allIn_one, allIn_one, fact_noDS _ (h _ hb)]
  cases allIn noD a <;> cases allIn noS a <;> cases noD ⟨#[c]⟩ <;> cases noS ⟨#[c]⟩ <;> rfl
theorem sw_pos {al : List Str} (h : ∀ x ∈ al, x ∈ tens) {kvs : List (Str × Int)} (hw : ∀ x ∈ tens, 1 ≤ wOf kvs x ∧ wOf kvs x < 7) (n : Nat) : ∀ t ∈ textsOf al n, 0 ≤ sw (wOf kvs) t := by
  refine texts_all (fun t => 0 ≤ sw (wOf kvs) t) (Int.le_refl 0) (fun a b ha hb => ?_) n
  obtain ⟨c, rfl⟩ := tens_single h b hb
  rw [sw_app, sw_one]
  have := hw _ (h _ hb)
  omega

theorem lens_eq {T : List Str} {f : Str → Str} {g : Str → Int} (h : ∀ t ∈ T, slen (f t) = g t) : (T.map f).map slen = T.map g := by
  rw [List.map_map]
  exact List.map_congr_left fun t ht => h t ht

theorem esc_law {al : List Str} (h : ∀ x ∈ al, x ∈ tens) {f : Str → Str} {kvs : List (Str × Int)} (hw : ∀ x ∈ tens, 1 ≤ wOf kvs x ∧ wOf kvs x < 7) (hf : ∀ t, Ten t → slen (f t) = sw (wOf kvs) t) (n : Nat) :
    cnt (((textsOf al n).map f).map slen) (6 * n + 1) = powOf (rowOf kvs (Str.ofString "") al) n := by
  have e : (textsOf al n).filter (allIn fun x => !hasSub (Str.ofString "") x) = textsOf al n := filter_all (fun t ht => all_noE h n t ht)
  rw [row_pow h hw, e, lens_eq fun t ht => hf t (ten_of h n t ht)]

/-! ## two signs more -/
theorem ct_map_two (k : Int) (X : List Int) : ct (k + 2) (X.map (2 + ·)) = ct k X := by
  induction X with
  | nil => rfl
  | cons a l ih =>
    rw [List.map_cons, ct_cons, ct_cons, ih]
    by_cases h : a = k
    · rw [if_pos (by omega), if_pos h]
    · rw [if_neg (by omega), if_neg h]
theorem cnt_two {X : List Int} (hX : ∀ x ∈ X, 0 ≤ x) (m : Nat) : cnt (X.map (2 + ·)) (m + 2) = [0, 0] ++ (iv m).map fun k => ct k X := by
  unfold cnt iv
  rw [List.range_succ_eq_map, List.range_succ_eq_map, List.map_cons, List.map_cons, List.map_cons, List.map_map, List.map_map, List.map_map]
  have z : ∀ k : Int, k < 2 → ct k (X.map (2 + ·)) = 0 := fun k hk => ct_zero fun hm => by
    obtain ⟨x, hx, e⟩ := List.mem_map.mp hm
    have := hX x hx
    omega
  have e0 := z 0 (by decide)
  have e1 := z 1 (by decide)
  show ct ((0 : Nat) : Int) _ :: ct ((Nat.succ 0 : Nat) : Int) _ :: _ = 0 :: 0 :: _
  rw [show ct ((0 : Nat) : Int) (X.map (2 + ·)) = 0 from e0, show ct ((Nat.succ 0 : Nat) : Int) (X.map (2 + ·)) = 0 from e1]
  congr 2
  refine List.map_congr_left fun k _ => ?_
  show ct ((k + 1 + 1 : Nat) : Int) _ = ct (k : Int) X
  rw [show ((k + 1 + 1 : Nat) : Int) = (k : Int) + 2 by omega]
  exact ct_map_two _ _

theorem ct_filter_cons (k : Int) (p : Str → Bool) (f : Str → Int) (t : Str) (T : List Str) : ct k (((t :: T).filter p).map f) = ct k ((T.filter p).map f) + if p t = true ∧ f t = k then 1 else 0 := by
  rw [List.filter_cons]
  by_cases h : p t = true
  · rw [if_pos h, List.map_cons, ct_cons]
    simp [h]
  · rw [if_neg h]
    simp [h]

/-- which texts are written how long, by inclusion and exclusion -/
theorem incl_excl (k : Int) : ∀ T : List Str, (∀ t ∈ T, allIn noDS t = (allIn noD t && allIn noS t)) → (∀ t ∈ T, allIn noE t = true) →
    ct k (T.map quoW) = ct k ((T.filter (allIn noD)).map (sw (wOf bareKv))) + ct k ((T.filter (allIn noS)).map (sw (wOf bareKv))) - ct k ((T.filter (allIn noDS)).map (sw (wOf bareKv)))
      + ct k ((T.filter (allIn noE)).map (sw (wOf markedKv))) - ct k ((T.filter (allIn noD)).map (sw (wOf markedKv))) - ct k ((T.filter (allIn noS)).map (sw (wOf markedKv))) + ct k ((T.filter (allIn noDS)).map (sw (wOf markedKv)))
  | [], _, _ => by simp [ct]
  | t :: T, h, hE => by
    have ih := incl_excl k T (fun t ht => h t (List.mem_cons_of_mem _ ht)) fun t ht => hE t (List.mem_cons_of_mem _ ht)
    rw [List.map_cons, ct_cons, ih]
    simp only [ct_filter_cons, h t List.mem_cons_self, hE t List.mem_cons_self]
    unfold quoW
    by_cases b : sw (wOf bareKv) t = k <;> by_cases m : sw (wOf markedKv) t = k <;> cases allIn noD t <;> cases allIn noS t <;> simp [b, m] <;> omega

theorem quo_law {al : List Str} (h : ∀ x ∈ al, x ∈ tens) (n : Nat) :
    cnt (((textsOf al n).map quo).map slen) (6 * n + 2 + 1) = quotedOf al n := by
  have hb : ∀ x ∈ tens, 1 ≤ wOf bareKv x ∧ wOf bareKv x < 7 := fun x hx => (fact_w x hx).2.2.1
  have hm : ∀ x ∈ tens, 1 ≤ wOf markedKv x ∧ wOf markedKv x < 7 := fun x hx => (fact_w x hx).2.2.2
  rw [lens_eq fun t ht => quo_slen (ten_of h n t ht)]
  have e : (textsOf al n).map (fun t => 2 + quoW t) = ((textsOf al n).map quoW).map (2 + ·) := by rw [List.map_map]; rfl
  rw [e, show 6 * n + 2 + 1 = (6 * n + 1) + 2 by omega, cnt_two]
  · unfold quotedOf
    refine congrArg ([0, 0] ++ ·) (List.map_congr_left fun k hk => ?_)
    obtain ⟨j, hj, rfl⟩ := List.mem_map.mp hk
    rw [List.mem_range] at hj
    rw [incl_excl _ _ (all_noDS h n) (all_noE h n)]
    unfold weigh qsOf
    simp only [List.map_cons, List.map_nil, List.sum_cons, List.sum_nil, row_pow h hb, row_pow h hm, Int.toNat_natCast, cnt_getD hj]
    show ct (j : Int) (((textsOf al n).filter (allIn noD)).map (sw (wOf bareKv))) + ct (j : Int) (((textsOf al n).filter (allIn noS)).map (sw (wOf bareKv))) - ct (j : Int) (((textsOf al n).filter (allIn noDS)).map (sw (wOf bareKv)))
      + ct (j : Int) (((textsOf al n).filter (allIn noE)).map (sw (wOf markedKv))) - ct (j : Int) (((textsOf al n).filter (allIn noD)).map (sw (wOf markedKv))) - ct (j : Int) (((textsOf al n).filter (allIn noS)).map (sw (wOf markedKv))) + ct (j : Int) (((textsOf al n).filter (allIn noDS)).map (sw (wOf markedKv)))
      = 1 * ct (j : Int) (((textsOf al n).filter (allIn noD)).map (sw (wOf bareKv))) + (1 * ct (j : Int) (((textsOf al n).filter (allIn noS)).map (sw (wOf bareKv))) + (-1 * ct (j : Int) (((textsOf al n).filter (allIn noDS)).map (sw (wOf bareKv)))
      + (1 * ct (j : Int) (((textsOf al n).filter (allIn noE)).map (sw (wOf markedKv))) + (-1 * ct (j : Int) (((textsOf al n).filter (allIn noD)).map (sw (wOf markedKv))) + (-1 * ct (j : Int) (((textsOf al n).filter (allIn noS)).map (sw (wOf markedKv))) + (1 * ct (j : Int) (((textsOf al n).filter (allIn noDS)).map (sw (wOf markedKv))) + 0))))))
    omega
  · intro x hx
    obtain ⟨t, ht, rfl⟩ := List.mem_map.mp hx
    have h1 := sw_pos h hb n t ht
    have h2 := sw_pos h hm n t ht
    unfold quoW
    split
    · exact h1
    · split
      · exact h1
      · exact h2

theorem nodup_of_inj {f : Str → Str} {T : List Str} (hT : T.Nodup) (h : ∀ a ∈ T, ∀ b ∈ T, f a = f b → a = b) : (T.map f).Nodup := by
  rw [List.Nodup, List.pairwise_map]
  exact List.Pairwise.imp_of_mem (fun {a b} ha hb hne he => hne (h a ha b hb he)) hT

theorem lawOK (ns : List Int) : LawOK (alphaOf ns) := by
  obtain ⟨hn, ht, hl⟩ := alpha_good ns
  have hs := tens_single ht
  have hnd := texts_nodup hs hn
  have hten := ten_of ht
  exact {
    len := hl
    one := fun x hx => by obtain ⟨c, rfl⟩ := hs x hx; rfl
    esc := fun n _ => esc_law ht (fun x hx => (fact_w x hx).1) (fun t h => esc_slen h) n
    escT := fun n _ => esc_law ht (fun x hx => (fact_w x hx).2.1) (fun t h => escT_slen h) n
    quo := fun n _ => quo_law ht n
    nq := fun n _ => nodup_of_inj (hnd n) fun a ha b hb e => quo_inj (hten n a ha) (hten n b hb) e
    nt := fun n _ => nodup_of_inj (hnd n) fun a ha b hb e => escT_inj (hten n a ha) (hten n b hb) e }
end Mine

set_option maxRecDepth 100000 in
set_option maxHeartbeats 8000000 in
theorem PySem.Challenge.cw_mq0501_01_holds : PySem.Challenge.rw_mq0501_01.Holds := by
  w_on; o_law; k_head
  case hw => w_witness2
  w_strict (
    k_fill
    intro w s₀ s₁ mg mb G Y fa o pm cd doc dV kV ho hd hcd hD hmg hg args vals as hpre hlay hrd hwl hlo
    have KX := kIn_of Y
    refine Ground.open G ?_
    intro T B D TE TW
    wrow_args hpre hlay hrd hwl hlo
    rename_i ns _ _ _ _ _ _ _ S vs _ hL _ _ _ hI _ hle _
    have e64 : mg "law" = some (.ref 64) := mg_of KX T.g rfl
    have e64' : mg "law" = some (.ref fa) := hmg
    rw [e64] at e64'
    obtain rfl : 64 = fa := by simpa using e64'
    have f64 : Mine.FnAt s₁.heap 64 9 .none := ⟨_, _, _, _, _, _, _, _, KX 64 _ rfl, rfl, codeRec_of KX rfl⟩
    have base : Mine.Base s₁.heap := {
      lim := T.nolimit
      glob := ⟨mg, mb, T.g, T.b, by
        intro p hp
        simp only [Mine.globTab, List.mem_cons, List.mem_nil_iff, or_false] at hp
        rcases hp with rfl | rfl | rfl | rfl | rfl | rfl | rfl <;> exact mg_of KX T.g rfl, by
        intro p hp
        simp only [Mine.builtTab, List.mem_cons, List.mem_nil_iff, or_false] at hp
        rcases hp with rfl | rfl | rfl | rfl <;> exact ⟨T.free _ (by decide +kernel) (by decide +kernel) (by decide +kernel) (by decide +kernel) (by decide +kernel), (T.builtins _ (by decide)).trans rfl⟩⟩
      f21 := ⟨_, _, _, _, _, _, _, _, KX 21 _ rfl, rfl, codeRec_of KX rfl⟩
      f30 := ⟨_, _, _, _, _, _, _, _, KX 30 _ rfl, rfl, codeRec_of KX rfl⟩
      f39 := ⟨_, _, _, _, _, _, _, _, KX 39 _ rfl, rfl, codeRec_of KX rfl⟩
      f44 := ⟨_, _, _, _, _, _, _, _, KX 44 _ rfl, rfl, codeRec_of KX rfl⟩
      f49 := ⟨_, _, _, _, _, _, _, _, KX 49 _ rfl, rfl, codeRec_of KX rfl⟩
      f54 := ⟨_, _, _, _, _, _, _, _, KX 54 _ rfl, rfl, codeRec_of KX rfl⟩
      f59 := ⟨_, _, _, _, _, _, _, _, KX 59 _ rfl, rfl, codeRec_of KX rfl⟩
      d22 := KX 22 _ rfl
      d23 := KX 23 _ rfl
      d31 := KX 31 _ rfl
      d32 := KX 32 _ rfl }
    obtain ⟨so, hSo, hSc, sn, hSd⟩ := hL
    refine wpAny_mono (Mine.call_law (prog := PySem.Challenge.rw_mq0501_01.row.prog) (A := callerA) ⟨rfl, by decide, by decide⟩ base f64 hSo hSc hSd hI (by omega) (Mine.lawOK ns)) (fun v s' h => ?_) fun _ _ f => f.elim
    obtain ⟨rfl, h', tk, rfl, kk⟩ := h
    refine ⟨.inl ⟨.bool true, .bool true, [], rfl, ?_, .bool true, ?_, fun _ => ⟨List.nodup_nil, fun a ha => nomatch ha⟩⟩, OldK.of_keep kk, rfl, ?_⟩
    · intro cls; rfl
    · wrow_post
    · intro y hy
      have hy' : y ∈ s₁.gens := hy
      rw [hg] at hy'
      simp at hy')
