import PyProof.Rows.All
import Wide.All
import OpenK.AllK
import Wide.FinOn
import PySem.Challenge.RW_ny0205_02
open PySem PySem.W PyProof.Rows PySem.Calls
set_option Elab.async false
set_option maxRecDepth 100000
set_option maxHeartbeats 8000000
set_option exponentiation.threshold 2000
set_option compiler.extract_closed false
namespace Mine

inductive D where
  | none | bool (b : Bool) | int (i : Int) | str (s : Str) | bytes (b : Array UInt8)
  | list (ds : List D) | tuple (ds : List D) | range (a b c : Int) | raw (v : Value)

/-- objects that never turn: sequences outside the store, ranges -/
noncomputable def Frz (o : Obj) : Prop := (∃ vs n, o.data = .seq vs n) ∨ ((∃ fs, o.data = .fields fs) ∧ o.cls = .type "range")

mutual
inductive Rep (h : Heap) (S : List Addr) : Value → D → Prop
  | none : Rep h S .none .none
  | bool (b : Bool) : Rep h S (.bool b) (.bool b)
  | int (i : Int) (t : Tok) : Rep h S (.int i t) (.int i)
  | str (x : Str) (t : Tok) : Rep h S (.str x t) (.str x)
  | bytes (b : Array UInt8) (t : Tok) : Rep h S (.bytes b t) (.bytes b)
  | list {a : Addr} {vs : List Value} {ds : List D} : h.IsList a vs.toArray → a ∉ S → RepL h S vs ds → Rep h S (.ref a) (.list ds)
  | tuple {a : Addr} {vs : List Value} {ds : List D} : IsTup h a vs.toArray → a ∉ S → RepL h S vs ds → Rep h S (.ref a) (.tuple ds)
  | range {r : Addr} {a b c : Int} {t u w : Tok} : IsRange h r a b c t u w → r ∉ S → Rep h S (.ref r) (.range a b c)
  | raw (v : Value) : Rep h S v (.raw v)
inductive RepL (h : Heap) (S : List Addr) : List Value → List D → Prop
  | nil : RepL h S [] []
  | cons {v : Value} {vs : List Value} {d : D} {ds : List D} : Rep h S v d → RepL h S vs ds → RepL h S (v :: vs) (d :: ds)
end

noncomputable def Le (h : Heap) (S : List Addr) (h' : Heap) (S' : List Addr) : Prop :=
  ∀ a o, h.get? a = some o → a ∉ S → h'.get? a = some o ∧ a ∉ S'

theorem Le.refl {h : Heap} {S : List Addr} : Le h S h S := fun _ _ e n => ⟨e, n⟩
theorem Le.trans {h h' h'' : Heap} {S S' S'' : List Addr} (x : Le h S h' S') (y : Le h' S' h'' S'') : Le h S h'' S'' :=
  fun a o e n => y a o (x a o e n).1 (x a o e n).2

noncomputable def Seqs (h : Heap) (S : List Addr) (h' : Heap) (S' : List Addr) : Prop :=
  ∀ a o, h.get? a = some o → a ∉ S → Frz o → h'.get? a = some o ∧ a ∉ S'
mutual
theorem Rep.mono {h h' : Heap} {S S' : List Addr} (l : Seqs h S h' S') : ∀ {v : Value} {d : D}, Rep h S v d → Rep h' S' v d
  | _, _, .none => .none
  | _, _, .bool b => .bool b
  | _, _, .int i t => .int i t
  | _, _, .str x t => .str x t
  | _, _, .bytes b t => .bytes b t
  | _, _, .list ⟨o, ho, hc, n, hd⟩ ha r => .list ⟨o, (l _ _ ho ha (.inl ⟨_, _, hd⟩)).1, hc, n, hd⟩ (l _ _ ho ha (.inl ⟨_, _, hd⟩)).2 (RepL.mono l r)
  | _, _, .tuple ⟨o, ho, hc, n, hd⟩ ha r => .tuple ⟨o, (l _ _ ho ha (.inl ⟨_, _, hd⟩)).1, hc, n, hd⟩ (l _ _ ho ha (.inl ⟨_, _, hd⟩)).2 (RepL.mono l r)
  | _, _, .range ho ha => .range (l _ _ ho ha (.inr ⟨⟨_, rfl⟩, rfl⟩)).1 (l _ _ ho ha (.inr ⟨⟨_, rfl⟩, rfl⟩)).2
  | _, _, .raw v => .raw v
theorem RepL.mono {h h' : Heap} {S S' : List Addr} (l : Seqs h S h' S') : ∀ {vs : List Value} {ds : List D}, RepL h S vs ds → RepL h' S' vs ds
  | _, _, .nil => .nil
  | _, _, .cons x r => .cons (Rep.mono l x) (RepL.mono l r)
end

theorem RepL.length {h : Heap} {S : List Addr} {vs : List Value} {ds : List D} (r : RepL h S vs ds) : vs.length = ds.length := by
  induction vs generalizing ds with
  | nil => cases r; rfl
  | cons v vs ih => cases r with | cons _ r => rw [List.length_cons, List.length_cons, ih r]
theorem RepL.append {h : Heap} {S : List Addr} {vs ws : List Value} {ds es : List D} (r : RepL h S vs ds) (q : RepL h S ws es) : RepL h S (vs ++ ws) (ds ++ es) := by
  induction vs generalizing ds with
  | nil => cases r; exact q
  | cons v vs ih => cases r with | cons x r => exact .cons x (ih r)
theorem RepL.get {h : Heap} {S : List Addr} {vs : List Value} {ds : List D} (r : RepL h S vs ds) {k : Nat} {d : D} (hk : ds[k]? = some d) : ∃ v, vs[k]? = some v ∧ Rep h S v d := by
  induction vs generalizing ds k with
  | nil => cases r; simp at hk
  | cons v vs ih =>
    cases r with
    | cons x r =>
      cases k with
      | zero => simp at hk; subst hk; exact ⟨v, rfl, x⟩
      | succ k => exact ih r (by simpa using hk)
theorem RepL.get' {h : Heap} {S : List Addr} {vs : List Value} {ds : List D} (r : RepL h S vs ds) {k : Nat} {v : Value} (hk : vs[k]? = some v) : ∃ d, ds[k]? = some d ∧ Rep h S v d := by
  induction vs generalizing ds k with
  | nil => simp at hk
  | cons u vs ih =>
    cases r with
    | cons x r =>
      cases k with
      | zero => simp at hk; subst hk; exact ⟨_, rfl, x⟩
      | succ k => exact ih r (by simpa using hk)
theorem RepL.take {h : Heap} {S : List Addr} {vs : List Value} {ds : List D} (k : Nat) (r : RepL h S vs ds) : RepL h S (vs.take k) (ds.take k) := by
  induction vs generalizing ds k with
  | nil => cases r; simpa using RepL.nil
  | cons v vs ih =>
    cases r with
    | cons x r => cases k with
      | zero => exact .nil
      | succ k => exact .cons x (ih k r)
theorem RepL.drop {h : Heap} {S : List Addr} {vs : List Value} {ds : List D} (k : Nat) (r : RepL h S vs ds) : RepL h S (vs.drop k) (ds.drop k) := by
  induction vs generalizing ds k with
  | nil => cases r; simpa using RepL.nil
  | cons v vs ih =>
    cases r with
    | cons x r => cases k with
      | zero => exact .cons x r
      | succ k => exact ih k r

abbrev Sto := List (Addr × List Value × List D)
abbrev Sto.S (σ : Sto) : List Addr := σ.map (·.1)

structure Cx where
  prog : Program
  w : World
  h₀ : Heap
  mg : Str → Option Value
  mb : Str → Option Value
  pins : List (Addr × Obj)
  g : h₀.Ns mainGlobals mg
  b : h₀.Ns builtinsNs mb
  lim : h₀.NoLimit
  boot : ∀ x : Str, x ≠ "__name__" → mb x = bootBuiltins x
  dig : ∃ mc, h₀.Ns cStatics mc ∧ mc "sys.int_max_str_digits" = none
  Z : List Addr

abbrev Cx.M (C : Cx) : Model := model C.prog C.w
/-- the addresses that no datum leans on -/
noncomputable def Cx.V (C : Cx) (σ : Sto) : List Addr := σ.S ++ C.Z
theorem Le.v {C : Cx} {h h' : Heap} {σ σ' : Sto} (l : Le h σ.S h' σ'.S) : Seqs h (C.V σ) h' (C.V σ') := fun a o e n _ => by
  simp only [Cx.V, List.mem_append, not_or] at n ⊢
  exact ⟨(l a o e n.1).1, (l a o e n.1).2, n.2⟩

noncomputable def Cx.withZ (C : Cx) (Z : List Addr) : Cx := { C with Z := Z }

noncomputable def Cx.Free (C : Cx) (a : Addr) : Prop := C.h₀.get? a = none ∧ (∀ p ∈ C.pins, p.1 ≠ a) ∧ a ∉ C.Z

structure Ok (C : Cx) (σ : Sto) (h : Heap) : Prop where
  base : ∀ a o, C.h₀.get? a = some o → h.get? a = some o
  pin : ∀ p ∈ C.pins, h.get? p.1 = some p.2
  off : ∀ p ∈ σ, C.Free p.1
  at_ : ∀ p ∈ σ, ∃ n, h.get? p.1 = some (listOf p.2.1.toArray n) ∧ RepL h (C.V σ) p.2.1 p.2.2
  nd : σ.S.Nodup
  zs : ∀ a ∈ C.Z, ∃ o, h.get? a = some o

structure Nx (C : Cx) (σ : Sto) (s : Shared) (σ' : Sto) (s' : Shared) : Prop where
  ok : Ok C σ' s'.heap
  le : Le s.heap σ.S s'.heap σ'.S
  gens : s'.gens = s.gens
  os : s'.os = s.os

theorem Nx.refl {C : Cx} {σ : Sto} {s : Shared} (o : Ok C σ s.heap) : Nx C σ s σ s := ⟨o, .refl, rfl, rfl⟩
theorem Nx.trans {C : Cx} {σ σ' σ'' : Sto} {s s' s'' : Shared} (x : Nx C σ s σ' s') (y : Nx C σ' s' σ'' s'') : Nx C σ s σ'' s'' :=
  ⟨y.ok, x.le.trans y.le, y.gens.trans x.gens, y.os.trans x.os⟩

/-- the heap is kept whole -/
theorem Ok.keeps {C : Cx} {σ : Sto} {h h' : Heap} (o : Ok C σ h) (k : ∀ a o, h.get? a = some o → h'.get? a = some o) : Ok C σ h' :=
  ⟨fun a x e => k a x (o.base a x e), fun p hp => k _ _ (o.pin p hp), o.off, fun p hp => by
    obtain ⟨n, e, r⟩ := o.at_ p hp
    exact ⟨n, k _ _ e, r.mono fun a x e n _ => ⟨k _ _ e, n⟩⟩, o.nd, fun a ha => (o.zs a ha).imp fun x e => k _ _ e⟩
theorem Nx.of_keeps {C : Cx} {σ : Sto} {s s' : Shared} (o : Ok C σ s.heap) (k : ∀ a o, s.heap.get? a = some o → s'.heap.get? a = some o) (hg : s'.gens = s.gens := by rfl) (hos : s'.os = s.os := by rfl) : Nx C σ s σ s' :=
  ⟨o.keeps k, fun a x e n => ⟨k a x e, n⟩, hg, hos⟩

abbrev Rho := List (Str × D)

noncomputable def Has (h : Heap) (S : List Addr) (env : Env) (ml : Str → Option Value) (x : Str) (d : D) : Prop :=
  ∃ v, Rep h S v d ∧ ((env.kindOf x = some .local ∧ ml x = some v) ∨
    ((env.kindOf x = some .cell ∨ env.kindOf x = some .free) ∧ ∃ c, env.cells.lookup x = some c ∧ h.IsCell c (some v)))

structure Fm (C : Cx) (σ : Sto) (h : Heap) (env : Env) (wr : Bool) (ρ : Rho) : Prop where
  has : ∃ ml, h.Ns env.locals ml ∧ ∀ x d, ρ.lookup x = some d → Has h (C.V σ) env ml x d
  kind : env.scope.kind = .function
  glob : env.globals = mainGlobals
  blt : env.builtins = builtinsNs
  offL : C.Free env.locals ∧ env.locals ∉ σ.S
  cells : ∀ x c, env.cells.lookup x = some c → (∃ v, h.IsCell c v) ∧ c ≠ env.locals ∧ c ∉ σ.S ∧ (wr = true → C.Free c)
  apart : ∀ x y c, env.cells.lookup x = some c → env.cells.lookup y = some c → x = y

theorem Has.mono {C : Cx} {h h' : Heap} {σ σ' : Sto} {env : Env} {ml : Str → Option Value} {x : Str} {d : D} (y : Has h (C.V σ) env ml x d) (l : Le h σ.S h' σ'.S)
    (hc : ∀ x c, env.cells.lookup x = some c → c ∉ σ.S) : Has h' (C.V σ') env ml x d := by
  obtain ⟨v, r, k⟩ := y
  refine ⟨v, r.mono l.v, k.imp id ?_⟩
  rintro ⟨k, c, hl, o, ho, hd⟩
  exact ⟨k, c, hl, o, (l _ _ ho (hc _ _ hl)).1, hd⟩

theorem Fm.le {C : Cx} {σ σ' : Sto} {h h' : Heap} {env : Env} {wr : Bool} {ρ : Rho} (f : Fm C σ h env wr ρ) (l : Le h σ.S h' σ'.S) : Fm C σ' h' env wr ρ := by
  obtain ⟨ml, hn, hh⟩ := f.has
  have hL : ∀ m, h.Ns env.locals m → h'.Ns env.locals m ∧ env.locals ∉ σ'.S := fun m ⟨o, es, ep, ho, r⟩ =>
    ⟨⟨o, es, ep, (l _ _ ho f.offL.2).1, r⟩, (l _ _ ho f.offL.2).2⟩
  refine ⟨⟨ml, (hL _ hn).1, fun x d e => (hh x d e).mono l fun x c hc => (f.cells x c hc).2.2.1⟩, f.kind, f.glob, f.blt, ⟨f.offL.1, (hL _ hn).2⟩, fun x c hc => ?_, f.apart⟩
  obtain ⟨⟨v, o, ho, hd⟩, n1, n2, n3⟩ := f.cells x c hc
  exact ⟨⟨v, o, (l _ _ ho n2).1, hd⟩, n1, (l _ _ ho n2).2, n3⟩
theorem Fm.next {C : Cx} {σ σ' : Sto} {s s' : Shared} {env : Env} {wr : Bool} {ρ : Rho} (f : Fm C σ s.heap env wr ρ) (x : Nx C σ s σ' s') : Fm C σ' s'.heap env wr ρ := f.le x.le
theorem Rep.next {C : Cx} {σ σ' : Sto} {s s' : Shared} {v : Value} {d : D} (r : Rep s.heap (C.V σ) v d) (x : Nx C σ s σ' s') : Rep s'.heap (C.V σ') v d := r.mono x.le.v
theorem RepL.next {C : Cx} {σ σ' : Sto} {s s' : Shared} {v : List Value} {d : List D} (r : RepL s.heap (C.V σ) v d) (x : Nx C σ s σ' s') : RepL s'.heap (C.V σ') v d := r.mono x.le.v

/-- what a tree that hands on a value gives: the post-condition in raw terms -/
abbrev Gets (C : Cx) (σ : Sto) (s : Shared) (P : D → Sto → Prop) : Value → Shared → Prop :=
  fun v s' => ∃ d σ', P d σ' ∧ Rep s'.heap (C.V σ') v d ∧ Nx C σ s σ' s'

theorem Gets.next {C : Cx} {σ σ₁ : Sto} {s s₁ : Shared} {P : D → Sto → Prop} (x : Nx C σ s σ₁ s₁) {v : Value} {s' : Shared} (g : Gets C σ₁ s₁ P v s') : Gets C σ s P v s' := by
  obtain ⟨d, σ', p, r, n⟩ := g; exact ⟨d, σ', p, r, x.trans n⟩

structure Rm (n : Nat) (A : Around) : Prop where
  handled : A.handled = none
  depth : A.depth + n < 600
  units : A.units + 12 * n < 8000
theorem Rm.le {n m : Nat} {A : Around} (r : Rm n A) (h : m ≤ n) : Rm m A := ⟨r.1, by have := r.2; omega, by have := r.3; omega⟩

/-- an expression: what holds of its datum and of the store behind it -/
structure Ev (C : Cx) (A : Around) (env : Env) (wr : Bool) (ρ : Rho) (σ : Sto) (e : Expr) (P : D → Sto → Prop) : Prop where
  run : ∀ s, Ok C σ s.heap → Fm C σ s.heap env wr ρ → ∀ E, wpAny C.M A (eval e env) (Gets C σ s P) E s

/-- a condition -/
structure Bv (C : Cx) (A : Around) (env : Env) (wr : Bool) (ρ : Rho) (σ : Sto) (e : Expr) (P : Bool → Sto → Prop) : Prop where
  run : ∀ s, Ok C σ s.heap → Fm C σ s.heap env wr ρ → ∀ E, wpAny C.M A (isTrue e env (eval e env)) (fun b s' => ∃ σ', P b σ' ∧ Nx C σ s σ' s') E s

inductive Fl where
  | nx | brk | cont | ret (d : D)
inductive FlRep (h : Heap) (S : List Addr) : Flow → Fl → Prop
  | nx : FlRep h S .next .nx
  | brk : FlRep h S .brk .brk
  | cont : FlRep h S .cont .cont
  | ret {v : Value} {d : D} : Rep h S v d → FlRep h S (.ret v) (.ret d)

noncomputable def Own (env : Env) (a : Addr) : Prop := a = env.locals ∨ ∃ x, env.cells.lookup x = some a

/-- what a frame's statements may turn: its names, and its cells where they are its own -/
noncomputable def OwnW (env : Env) (wr : Bool) (a : Addr) : Prop := a = env.locals ∨ (wr = true ∧ ∃ x, env.cells.lookup x = some a)
theorem OwnW.own {env : Env} {wr : Bool} {a : Addr} (h : OwnW env wr a) : Own env a := h.imp id fun h => h.2

/-- behind statements: the frame's own names may have turned -/
structure Nz (C : Cx) (env : Env) (wr : Bool) (σ : Sto) (s : Shared) (σ' : Sto) (s' : Shared) : Prop where
  ok : Ok C σ' s'.heap
  le : ∀ a o, s.heap.get? a = some o → a ∉ σ.S → ¬ OwnW env wr a → s'.heap.get? a = some o ∧ a ∉ σ'.S
  own : ∀ a, Own env a → a ∉ σ'.S
  gens : s'.gens = s.gens
  os : s'.os = s.os

theorem Nz.trans {C : Cx} {env : Env} {wr : Bool} {σ σ' σ'' : Sto} {s s' s'' : Shared} (x : Nz C env wr σ s σ' s') (y : Nz C env wr σ' s' σ'' s'') : Nz C env wr σ s σ'' s'' :=
  ⟨y.ok, fun a o e n w => y.le a o (x.le a o e n w).1 (x.le a o e n w).2 w, y.own, y.gens.trans x.gens, y.os.trans x.os⟩
theorem Nx.nz {C : Cx} {env : Env} {σ σ' : Sto} {s s' : Shared} {wr : Bool} {ρ : Rho} (x : Nx C σ s σ' s') (f : Fm C σ s.heap env wr ρ) : Nz C env wr σ s σ' s' := by
  have f' := f.next x
  exact ⟨x.ok, fun a o e n _ => x.le a o e n, fun a => by
    rintro (rfl | ⟨y, hc⟩)
    · exact f'.offL.2
    · exact (f'.cells y a hc).2.2.1, x.gens, x.os⟩

abbrev Does (C : Cx) (env : Env) (wr : Bool) (σ : Sto) (s : Shared) (P : Fl → Rho → Sto → Prop) : Flow → Shared → Prop :=
  fun f s' => ∃ fl ρ' σ', P fl ρ' σ' ∧ FlRep s'.heap (C.V σ') f fl ∧ Nz C env wr σ s σ' s' ∧ Fm C σ' s'.heap env wr ρ'

theorem Does.next {C : Cx} {env : Env} {wr : Bool} {σ σ₁ : Sto} {s s₁ : Shared} {P : Fl → Rho → Sto → Prop} (x : Nz C env wr σ s σ₁ s₁) {f : Flow} {s' : Shared} (g : Does C env wr σ₁ s₁ P f s') : Does C env wr σ s P f s' := by
  obtain ⟨fl, ρ', σ', p, r, n, m⟩ := g; exact ⟨fl, ρ', σ', p, r, x.trans n, m⟩

/-- one statement -/
structure Ex1 (C : Cx) (A : Around) (env : Env) (wr : Bool) (ρ : Rho) (σ : Sto) (st : Stmt) (P : Fl → Rho → Sto → Prop) : Prop where
  run : ∀ s, Ok C σ s.heap → Fm C σ s.heap env wr ρ → ∀ E, wpAny C.M A (exec st env) (Does C env wr σ s P) E s
/-- statements -/
structure Ex (C : Cx) (A : Around) (env : Env) (wr : Bool) (ρ : Rho) (σ : Sto) (ss : List Stmt) (P : Fl → Rho → Sto → Prop) : Prop where
  run : ∀ s, Ok C σ s.heap → Fm C σ s.heap env wr ρ → ∀ E, wpAny C.M A (execs ss env) (Does C env wr σ s P) E s

section
variable {C : Cx} {A : Around} {env : Env} {wr : Bool} {ρ : Rho} {σ : Sto}

theorem Ev.mono {e : Expr} {P P' : D → Sto → Prop} (h : Ev C A env wr ρ σ e P) (i : ∀ d σ', P d σ' → P' d σ') : Ev C A env wr ρ σ e P' :=
  ⟨fun s o f E => wpAny_mono (h.run s o f E) (fun _ _ ⟨d, σ', p, q⟩ => ⟨d, σ', i _ _ p, q⟩) fun _ _ x => x⟩
theorem Bv.mono {e : Expr} {P P' : Bool → Sto → Prop} (h : Bv C A env wr ρ σ e P) (i : ∀ d σ', P d σ' → P' d σ') : Bv C A env wr ρ σ e P' :=
  ⟨fun s o f E => wpAny_mono (h.run s o f E) (fun _ _ ⟨σ', p, q⟩ => ⟨σ', i _ _ p, q⟩) fun _ _ x => x⟩
theorem Ex1.mono {st : Stmt} {P P' : Fl → Rho → Sto → Prop} (h : Ex1 C A env wr ρ σ st P) (i : ∀ f r σ', P f r σ' → P' f r σ') : Ex1 C A env wr ρ σ st P' :=
  ⟨fun s o f E => wpAny_mono (h.run s o f E) (fun _ _ ⟨d, r, σ', p, q⟩ => ⟨d, r, σ', i _ _ _ p, q⟩) fun _ _ x => x⟩
theorem Ex.mono {st : List Stmt} {P P' : Fl → Rho → Sto → Prop} (h : Ex C A env wr ρ σ st P) (i : ∀ f r σ', P f r σ' → P' f r σ') : Ex C A env wr ρ σ st P' :=
  ⟨fun s o f E => wpAny_mono (h.run s o f E) (fun _ _ ⟨d, r, σ', p, q⟩ => ⟨d, r, σ', i _ _ _ p, q⟩) fun _ _ x => x⟩

theorem Nz.refl {s : Shared} (o : Ok C σ s.heap) (f : Fm C σ s.heap env wr ρ) : Nz C env wr σ s σ s := (Nx.refl o).nz f

theorem ex_nil {P : Fl → Rho → Sto → Prop} (h : P .nx ρ σ) : Ex C A env wr ρ σ [] P :=
  ⟨fun _ o f _ => wpAny_execs_nil ⟨_, _, _, h, .nx, .refl o f, f⟩⟩

theorem ex_cons {st : Stmt} {rest : List Stmt} {P : Fl → Rho → Sto → Prop}
    (h : Ex1 C A env wr ρ σ st (fun fl ρ' σ' => match fl with | .nx => Ex C A env wr ρ' σ' rest P | f => P f ρ' σ')) : Ex C A env wr ρ σ (st :: rest) P := by
  constructor
  intro s o f E
  refine wpAny_execs_cons (wpAny_mono (h.run s o f E) ?_ fun _ _ x => x)
  rintro fl s' ⟨l, ρ', σ', p, r, n, m⟩
  cases r with
  | nx => exact wpAny_mono (p.run s' n.ok m E) (fun _ _ g => Does.next n g) fun _ _ x => x
  | brk => exact ⟨_, _, _, p, .brk, n, m⟩
  | cont => exact ⟨_, _, _, p, .cont, n, m⟩
  | ret q => exact ⟨_, _, _, p, .ret q, n, m⟩
end
end Mine
namespace Mine

noncomputable def setR : Rho → Str → D → Rho
  | [], x, d => [(x, d)]
  | (y, e) :: r, x, d => if y == x then (x, d) :: r else (y, e) :: setR r x d
theorem setR_lookup {d : D} {x : Str} : ∀ (ρ : Rho) (y : Str), (setR ρ x d).lookup y = if y == x then some d else ρ.lookup y
  | [], y => by
    simp only [setR, List.lookup]
    split <;> simp_all
  | (z, e) :: r, y => by
    simp only [setR]
    split
    · rename_i hz
      have hz' := eq_of_beq hz
      subst hz'
      simp only [List.lookup]
      split <;> simp_all
    · rename_i hz
      simp only [List.lookup]
      split
      · rename_i h1
        have := eq_of_beq h1
        subst this
        simp [hz]
      · exact setR_lookup r y

noncomputable def Sub (ρ' ρ : Rho) : Prop := ∀ x d, ρ'.lookup x = some d → ρ.lookup x = some d
theorem Sub.refl {ρ : Rho} : Sub ρ ρ := fun _ _ e => e
noncomputable def SubL : Rho → Rho → Prop
  | [], _ => True
  | (x, d) :: r, ρ => ρ.lookup x = some d ∧ SubL r ρ
theorem SubL.sub : ∀ {ρ' ρ : Rho}, SubL ρ' ρ → Sub ρ' ρ
  | [], _, _ => fun _ _ e => by simp [List.lookup] at e
  | (y, e) :: r, ρ, h => fun x d q => by
    simp only [List.lookup] at q
    split at q
    · rename_i hxy
      have := eq_of_beq hxy; subst this
      cases q; exact h.1
    · exact SubL.sub h.2 x d q

section
variable {C : Cx} {A : Around} {env : Env} {wr : Bool} {ρ : Rho} {σ : Sto} {E : Value → Shared → Prop} {s : Shared}

theorem Fm.sub {h : Heap} {ρ' : Rho} (f : Fm C σ h env wr ρ) (q : Sub ρ' ρ) : Fm C σ h env wr ρ' := by
  obtain ⟨ml, hn, hh⟩ := f.has
  exact ⟨⟨ml, hn, fun x d e => hh x d (q x d e)⟩, f.kind, f.glob, f.blt, f.offL, f.cells, f.apart⟩
theorem Ex.sub {ss : List Stmt} {ρ' : Rho} {P : Fl → Rho → Sto → Prop} (q : Sub ρ' ρ) (h : Ex C A env wr ρ' σ ss P) : Ex C A env wr ρ σ ss P := ⟨fun s o f E => h.run s o (f.sub q) E⟩

/-- a name's place is written anew: what the frame's own change keeps -/
theorem store_keep {a : Addr} {h h' : Heap} (o : Ok C σ h) (ha : C.Free a) (hS : a ∉ σ.S) (hb : Heap.SameBut a h h') (hq : ∀ x, h.get? a = some x → ¬ Frz x) : Ok C σ h' ∧ Seqs h (C.V σ) h' (C.V σ) := by
  have sq : Seqs h (C.V σ) h' (C.V σ) := fun b x e n q => by
    have hne : b ≠ a := fun z => by subst z; exact hq x e q
    exact ⟨(hb.2 b hne).trans e, n⟩
  refine ⟨⟨fun b x e => ?_, fun p hp => ?_, o.off, fun p hp => ?_, o.nd, fun b hb' => (o.zs b hb').imp fun x e => (hb.2 b fun z => ha.2.2 (z ▸ hb')).trans e⟩, sq⟩
  · have hne : b ≠ a := fun z => by subst z; rw [ha.1] at e; cases e
    exact (hb.2 b hne).trans (o.base b x e)
  · exact (hb.2 _ (ha.2.1 p hp)).trans (o.pin p hp)
  · obtain ⟨n, e, r⟩ := o.at_ p hp
    have hne : p.1 ≠ a := fun z => hS (z ▸ List.mem_map_of_mem hp)
    exact ⟨n, (hb.2 _ hne).trans e, r.mono sq⟩

noncomputable def CanSt (env : Env) (wr : Bool) (x : Str) : Prop := env.kindOf x = some .local ∨ (wr = true ∧ env.kindOf x = some .cell ∧ (env.cells.lookup x).isSome = true)

theorem wp_store {x : Str} {v : Value} {d : D} (o : Ok C σ s.heap) (f : Fm C σ s.heap env wr ρ) (r : Rep s.heap (C.V σ) v d) (hx : CanSt env wr x) {Q : Unit → Shared → Prop}
    (h : ∀ s', Nz C env wr σ s σ s' → Fm C σ s'.heap env wr (setR ρ x d) → Q () s') : wpAny C.M A (storeName env x v) Q E s := by
  obtain ⟨ml, hn, hh⟩ := f.has
  rcases hx with hx | ⟨hw, hx, hc⟩
  · refine wpAny_storeName_local hx hn (fun h' hn' hb => ?_) (by rw [f.kind]; rfl)
    have hq : ∀ x, s.heap.get? env.locals = some x → ¬ Frz x := fun y e z => by
      obtain ⟨oL, es, ep, ho, hd, _⟩ := hn
      rw [ho] at e; cases e
      rcases z with ⟨_, _, z⟩ | ⟨⟨_, z⟩, _⟩ <;> rw [hd] at z <;> cases z
    obtain ⟨ok', sq⟩ := store_keep o f.offL.1 f.offL.2 hb hq
    have hcells : ∀ y c, env.cells.lookup y = some c → (∃ v, h'.IsCell c v) ∧ c ≠ env.locals ∧ c ∉ σ.S ∧ (wr = true → C.Free c) := fun y c hc => by
      obtain ⟨⟨v, hv⟩, n⟩ := f.cells y c hc
      exact ⟨⟨v, hv.sameBut hb n.1⟩, n⟩
    refine h _ ⟨ok', fun a x e n w => ⟨(hb.2 a fun z => w (.inl z)).trans e, n⟩, fun a => ?_, rfl, rfl⟩
      ⟨⟨_, hn', fun y e q => ?_⟩, f.kind, f.glob, f.blt, f.offL, hcells, f.apart⟩
    · rintro (rfl | ⟨y, hc⟩)
      · exact f.offL.2
      · exact (f.cells y a hc).2.2.1
    · rw [setR_lookup] at q
      split at q
      · rename_i hxy
        have := eq_of_beq hxy; subst this
        cases q
        exact ⟨v, r.mono sq, .inl ⟨hx, by simp⟩⟩
      · rename_i hxy
        obtain ⟨u, ru, k⟩ := hh y e q
        refine ⟨u, ru.mono sq, k.imp (fun ⟨k1, k2⟩ => ⟨k1, ?_⟩) fun ⟨k1, c, k2, k3⟩ => ⟨k1, c, k2, k3.sameBut hb (f.cells y c k2).2.1⟩⟩
        show (if y = x then some v else ml y) = some u
        rw [if_neg (fun z => hxy (by rw [z]; exact beq_self_eq_true x))]; exact k2
  · obtain ⟨c, hc⟩ := Option.isSome_iff_exists.mp hc
    obtain ⟨⟨v₀, hv₀⟩, n1, n2, n3⟩ := f.cells x c hc
    refine wpAny_storeName_cell f.kind hx hc hv₀ fun h' hv' hb => ?_
    have hq : ∀ x, s.heap.get? c = some x → ¬ Frz x := fun y e z => by
      obtain ⟨oc, ho, hd⟩ := hv₀
      rw [ho] at e; cases e
      rcases z with ⟨_, _, z⟩ | ⟨⟨_, z⟩, _⟩ <;> rw [hd] at z <;> cases z
    obtain ⟨ok', sq⟩ := store_keep o (n3 hw) n2 hb hq
    have hcells : ∀ y c, env.cells.lookup y = some c → (∃ v, h'.IsCell c v) ∧ c ≠ env.locals ∧ c ∉ σ.S ∧ (wr = true → C.Free c) := fun y c' hc' => by
      obtain ⟨⟨u, hu⟩, n⟩ := f.cells y c' hc'
      by_cases hcc : c' = c
      · subst hcc; exact ⟨⟨_, hv'⟩, n⟩
      · exact ⟨⟨u, hu.sameBut hb hcc⟩, n⟩
    refine h _ ⟨ok', fun a x' e n w => ⟨(hb.2 a fun z => w (.inr ⟨hw, x, z ▸ hc⟩)).trans e, n⟩, fun a => ?_, rfl, rfl⟩
      ⟨⟨ml, hn.sameBut hb (Ne.symm n1), fun y e q => ?_⟩, f.kind, f.glob, f.blt, f.offL, hcells, f.apart⟩
    · rintro (rfl | ⟨y, hc⟩)
      · exact f.offL.2
      · exact (f.cells y a hc).2.2.1
    · rw [setR_lookup] at q
      split at q
      · rename_i hxy
        have := eq_of_beq hxy; subst this
        cases q
        exact ⟨v, r.mono sq, .inr ⟨.inl hx, c, hc, hv'⟩⟩
      · rename_i hxy
        obtain ⟨u, ru, k⟩ := hh y e q
        refine ⟨u, ru.mono sq, k.imp id fun ⟨k1, c', k2, k3⟩ => ⟨k1, c', k2, k3.sameBut hb fun z => ?_⟩⟩
        subst z
        exact hxy (by simp [f.apart y x _ k2 hc])

theorem ev_var {x : Str} {pos : Pos} {d : D} {P : D → Sto → Prop} (hx : ρ.lookup x = some d) (h : P d σ) (hd : (x == ("__debug__" : Str)) = false := by decide) (hc : (x == ("__classdict__" : Str)) = false := by decide) :
    Ev C A env wr ρ σ (.Name x pos) P := by
  constructor
  intro s o f E
  obtain ⟨ml, hn, hh⟩ := f.has
  obtain ⟨v, r, ⟨k, e⟩ | ⟨k | k, c, hl, hv⟩⟩ := hh x d hx
  · exact wpAny_Name (wpAny_loadName_local f.kind k hn e ⟨d, σ, h, r, .refl o⟩) hd
  · exact wpAny_Name (wpAny_loadName_cell f.kind k hl hv ⟨d, σ, h, r, .refl o⟩) hd
  · exact wpAny_Name (wpAny_loadName_free f.kind k hl hv ⟨d, σ, h, r, .refl o⟩ hc) hd
theorem Ns.keep {h h' : Heap} {a : Addr} {m : Str → Option Value} (n : h.Ns a m) (k : ∀ a o, h.get? a = some o → h'.get? a = some o) : h'.Ns a m :=
  let ⟨o, es, ep, ho, r⟩ := n; ⟨o, es, ep, k _ _ ho, r⟩
theorem ev_global {x : Str} {pos : Pos} {v : Value} {P : D → Sto → Prop} (hx : C.mg x = some v) (h : P (.raw v) σ) (hk : env.kindOf x = some .globalImplicit := by rfl) (hd : (x == ("__debug__" : Str)) = false := by decide) :
    Ev C A env wr ρ σ (.Name x pos) P := by
  constructor
  intro s o f E
  exact Name_function_global f.kind hk (loadGlobal_global (by rw [f.glob]; exact Ns.keep C.g o.base) hx ⟨_, _, h, .raw _, .refl o⟩) hd
theorem ev_builtin {x : Str} {pos : Pos} {v : Value} {P : D → Sto → Prop} (hx : C.mg x = none) (hv : bootBuiltins x = some v) (h : P (.raw v) σ) (hk : env.kindOf x = some .globalImplicit := by rfl) (hd : (x == ("__debug__" : Str)) = false := by decide)
    (hn : x ≠ "__name__" := by decide) : Ev C A env wr ρ σ (.Name x pos) P := by
  constructor
  intro s o f E
  exact Name_function_global f.kind hk (loadGlobal_builtin (by rw [f.glob]; exact Ns.keep C.g o.base) hx (by rw [f.blt]; exact Ns.keep C.b o.base) ((C.boot x hn).trans hv) ⟨_, _, h, .raw _, .refl o⟩) hd

theorem nx_toks (o : Ok C σ s.heap) (n : Nat) : Nx C σ s σ { s with toks := n } := ⟨o, .refl, rfl, rfl⟩

theorem ev_int {i : Int} {k : Nat} {pos : Pos} {P : D → Sto → Prop} (h : P (.int i) σ) : Ev C A env wr ρ σ (.Constant (.int i) k pos) P := by
  constructor; intro s o f E; exact wpAny_Constant_int ⟨_, _, h, .int _ _, nx_toks o _⟩
theorem ev_str {x : Str} {k : Nat} {pos : Pos} {P : D → Sto → Prop} (h : P (.str x) σ) : Ev C A env wr ρ σ (.Constant (.str x) k pos) P := by
  constructor; intro s o f E; exact Constant_str ⟨_, _, h, .str _ _, nx_toks o _⟩
theorem ev_none {k : Nat} {pos : Pos} {P : D → Sto → Prop} (h : P .none σ) : Ev C A env wr ρ σ (.Constant .none k pos) P := by
  constructor; intro s o f E; exact wpAny_Constant_none ⟨_, _, h, .none, .refl o⟩
theorem ev_bool {b : Bool} {k : Nat} {pos : Pos} {P : D → Sto → Prop} (h : P (.bool b) σ) : Ev C A env wr ρ σ (.Constant (.bool b) k pos) P := by
  constructor; intro s o f E; exact wpAny_Constant_bool ⟨_, _, h, .bool _, .refl o⟩

/-- an operation upon two data -/
structure Op2 (C : Cx) (A : Around) (t : Value → Value → Sem Value) (a b : D) (σ : Sto) (P : D → Sto → Prop) : Prop where
  run : ∀ s va vb, Ok C σ s.heap → Rep s.heap (C.V σ) va a → Rep s.heap (C.V σ) vb b → ∀ E, wpAny C.M A (t va vb) (Gets C σ s P) E s
structure Op1 (C : Cx) (A : Around) (t : Value → Sem Value) (a : D) (σ : Sto) (P : D → Sto → Prop) : Prop where
  run : ∀ s va, Ok C σ s.heap → Rep s.heap (C.V σ) va a → ∀ E, wpAny C.M A (t va) (Gets C σ s P) E s
/-- the truth of a datum -/
structure Tru (C : Cx) (A : Around) (a : D) (σ : Sto) (P : Bool → Sto → Prop) : Prop where
  run : ∀ s va, Ok C σ s.heap → Rep s.heap (C.V σ) va a → ∀ E, wpAny C.M A (truthy va) (fun b s' => ∃ σ', P b σ' ∧ Nx C σ s σ' s') E s

theorem ev_binop {l r : Expr} {op : Operator} {pos : Pos} {P : D → Sto → Prop}
    (h : Ev C A env wr ρ σ l fun a σ₁ => Ev C A env wr ρ σ₁ r fun b σ₂ => Op2 C A (binaryOp op) a b σ₂ P) : Ev C A env wr ρ σ (.BinOp l op r pos) P := by
  constructor
  intro s o f E
  refine wpAny_BinOp (wpAny_mono (h.run s o f E) ?_ fun _ _ x => x)
  rintro va s₁ ⟨a, σ₁, h₁, ra, n₁⟩
  refine wpAny_mono (h₁.run s₁ n₁.ok (f.next n₁) E) ?_ fun _ _ x => x
  rintro vb s₂ ⟨b, σ₂, h₂, rb, n₂⟩
  exact wpAny_mono (h₂.run s₂ va vb n₂.ok (ra.next n₂) rb E) (fun _ _ g => Gets.next (n₁.trans n₂) g) fun _ _ x => x
theorem ev_compare {l r : Expr} {op : CmpOp} {pos : Pos} {P : D → Sto → Prop}
    (h : Ev C A env wr ρ σ l fun a σ₁ => Ev C A env wr ρ σ₁ r fun b σ₂ => Op2 C A (compareOp op) a b σ₂ P) (hm : behindInMarks op r = false := by with_unfolding_all rfl) : Ev C A env wr ρ σ (.Compare l [op] [r] pos) P := by
  constructor
  intro s o f E
  refine wpAny_Compare1 (wpAny_mono (h.run s o f E) ?_ fun _ _ x => x) hm
  rintro va s₁ ⟨a, σ₁, h₁, ra, n₁⟩
  refine wpAny_mono (h₁.run s₁ n₁.ok (f.next n₁) E) ?_ fun _ _ x => x
  rintro vb s₂ ⟨b, σ₂, h₂, rb, n₂⟩
  exact wpAny_mono (h₂.run s₂ va vb n₂.ok (ra.next n₂) rb E) (fun _ _ g => Gets.next (n₁.trans n₂) g) fun _ _ x => x
theorem bv_compare {l r : Expr} {op : CmpOp} {pos : Pos} {P : Bool → Sto → Prop}
    (h : Ev C A env wr ρ σ l fun a σ₁ => Ev C A env wr ρ σ₁ r fun b σ₂ => Op2 C A (compareOp op) a b σ₂ fun c σ₃ => ∃ x, c = .bool x ∧ P x σ₃) (hm : behindInMarks op r = false := by with_unfolding_all rfl) :
    Bv C A env wr ρ σ (.Compare l [op] [r] pos) P := by
  constructor
  intro s o f E
  refine wpAny_isTrue_Compare1 (wpAny_mono (h.run s o f E) ?_ fun _ _ x => x) hm
  rintro va s₁ ⟨a, σ₁, h₁, ra, n₁⟩
  refine wpAny_mono (h₁.run s₁ n₁.ok (f.next n₁) E) ?_ fun _ _ x => x
  rintro vb s₂ ⟨b, σ₂, h₂, rb, n₂⟩
  refine wpAny_mono (h₂.run s₂ va vb n₂.ok (ra.next n₂) rb E) ?_ fun _ _ x => x
  rintro vc s₃ ⟨c, σ₃, ⟨x, rfl, p⟩, rc, n₃⟩
  cases rc
  exact wpAny_truthy_bool ⟨σ₃, p, (n₁.trans n₂).trans n₃⟩
theorem bv_value {e : Expr} {P : Bool → Sto → Prop} (h : Ev C A env wr ρ σ e fun a σ₁ => Tru C A a σ₁ P)
    (he : isTrue e env (eval e env) = (do let v ← eval e env; standAt e.pos; holding [v] (truthy v)) := by rfl) : Bv C A env wr ρ σ e P := by
  constructor
  intro s o f E
  refine wpAny_isTrue_value (wpAny_mono (h.run s o f E) ?_ fun _ _ x => x) he
  rintro va s₁ ⟨a, σ₁, h₁, ra, n₁⟩
  refine wpAny_mono (h₁.run s₁ va n₁.ok ra E) ?_ fun _ _ x => x
  rintro b s₂ ⟨σ₂, p, n₂⟩
  exact ⟨σ₂, p, n₁.trans n₂⟩
theorem bv_and2 {l r : Expr} {pos : Pos} {P : Bool → Sto → Prop} (h : Bv C A env wr ρ σ l fun b σ₁ => if b then Bv C A env wr ρ σ₁ r P else P false σ₁) : Bv C A env wr ρ σ (.BoolOp .And [l, r] pos) P := by
  constructor
  intro s o f E
  refine wpAny_isTrue_BoolOp ?_
  simp only [allTrue]
  refine wpAny_bind (wpAny_mono (h.run s o f E) ?_ fun _ _ x => x)
  rintro b s₁ ⟨σ₁, p, n₁⟩
  cases b with
  | false => exact wpAny_pure ⟨σ₁, by simpa using p, n₁⟩
  | true =>
    simp only [if_true] at p
    refine wpAny_bind (wpAny_mono (p.run s₁ n₁.ok (f.next n₁) E) ?_ fun _ _ x => x)
    rintro b s₂ ⟨σ₂, p, n₂⟩
    cases b <;> exact wpAny_pure ⟨σ₂, p, n₁.trans n₂⟩
theorem ev_ifexp {t b e : Expr} {pos : Pos} {P : D → Sto → Prop} (h : Bv C A env wr ρ σ t fun c σ₁ => if c then Ev C A env wr ρ σ₁ b P else Ev C A env wr ρ σ₁ e P) : Ev C A env wr ρ σ (.IfExp t b e pos) P := by
  constructor
  intro s o f E
  refine wpAny_IfExp (wpAny_mono (h.run s o f E) ?_ fun _ _ x => x)
  rintro c s₁ ⟨σ₁, p, n₁⟩
  cases c <;> exact wpAny_mono (p.run s₁ n₁.ok (f.next n₁) E) (fun _ _ g => Gets.next n₁ g) fun _ _ x => x

theorem ex1_assign {x : Str} {px pos : Pos} {e : Expr} {P : Fl → Rho → Sto → Prop} (h : Ev C A env wr ρ σ e fun d σ₁ => P .nx (setR ρ x d) σ₁) (hx : CanSt env wr x)
    (hs : swapsWith e (some (.Name x px)) pos.line env = pure false := by rfl) : Ex1 C A env wr ρ σ (.Assign [.Name x px] e pos) P := by
  constructor
  intro s o f E
  refine wpAny_Assign_Name (wpAny_mono (h.run s o f E) ?_ fun _ _ x => x) hs
  rintro v s₁ ⟨d, σ₁, p, r, n₁⟩
  exact wp_store n₁.ok (f.next n₁) r hx fun s₂ n₂ f₂ => ⟨_, _, _, p, .nx, (n₁.nz f).trans n₂, f₂⟩
theorem ex1_if {t : Expr} {b e : List Stmt} {pos : Pos} {P : Fl → Rho → Sto → Prop} (h : Bv C A env wr ρ σ t fun c σ₁ => if c then Ex C A env wr ρ σ₁ b P else Ex C A env wr ρ σ₁ e P) : Ex1 C A env wr ρ σ (.If t b e pos) P := by
  constructor
  intro s o f E
  refine wpAny_If (wpAny_mono (h.run s o f E) ?_ fun _ _ x => x)
  rintro c s₁ ⟨σ₁, p, n₁⟩
  cases c <;> exact wpAny_mono (p.run s₁ n₁.ok (f.next n₁) E) (fun _ _ g => Does.next (n₁.nz f) g) fun _ _ x => x
theorem ex1_return {e : Expr} {pos : Pos} {P : Fl → Rho → Sto → Prop} (h : Ev C A env wr ρ σ e fun d σ₁ => P (.ret d) ρ σ₁) : Ex1 C A env wr ρ σ (.Return (some e) pos) P := by
  constructor
  intro s o f E
  refine wpAny_Return_some (wpAny_mono (h.run s o f E) ?_ fun _ _ x => x)
  rintro v s₁ ⟨d, σ₁, p, r, n₁⟩
  exact ⟨_, _, _, p, .ret r, n₁.nz f, f.next n₁⟩
theorem ex1_expr {e : Expr} {pos : Pos} {P : Fl → Rho → Sto → Prop} (h : Ev C A env wr ρ σ e fun _ σ₁ => P .nx ρ σ₁) (hi : interactive env = false := by rfl) (hs : swapsWith e none pos.line env = pure false := by rfl) : Ex1 C A env wr ρ σ (.Expr e pos) P := by
  constructor
  intro s o f E
  refine wpAny_Expr_any (wpAny_mono (h.run s o f E) ?_ fun _ _ x => x) hi hs
  rintro v s₁ ⟨d, σ₁, p, r, n₁⟩
  exact ⟨_, _, _, p, .nx, n₁.nz f, f.next n₁⟩

theorem ex1_while {t : Expr} {b : List Stmt} {pos : Pos} {P : Fl → Rho → Sto → Prop} (I : Nat → Rho → Sto → Prop) (n : Nat) (h0 : I n ρ σ)
    (turn : ∀ n ρ₁ σ₁, I n ρ₁ σ₁ → Bv C A env wr ρ₁ σ₁ t fun c σ₂ => if c then Ex C A env wr ρ₁ σ₂ b (fun fl ρ₃ σ₃ => match fl with
        | .nx | .cont => ∃ m, m < n ∧ ∃ ρ₄, Sub ρ₄ ρ₃ ∧ I m ρ₄ σ₃
        | .brk => P .nx ρ₃ σ₃
        | .ret d => P (.ret d) ρ₃ σ₃) else P .nx ρ₁ σ₂) : Ex1 C A env wr ρ σ (.While t b [] pos) P := by
  constructor
  intro s o f E
  refine wpAny_While (codeAny_whileLoop (fun n s₁ => ∃ ρ₁ σ₁, I n ρ₁ σ₁ ∧ Nz C env wr σ s σ₁ s₁ ∧ Fm C σ₁ s₁.heap env wr ρ₁) ?_ n ⟨ρ, σ, h0, .refl o f, f⟩)
  rintro n s₁ ⟨ρ₁, σ₁, i, n₁, f₁⟩
  refine wpAny_mono ((turn n ρ₁ σ₁ i).run s₁ n₁.ok f₁ _) ?_ fun _ _ x => x
  rintro c s₂ ⟨σ₂, p, n₂⟩
  cases c with
  | false => exact wpAny_execs_nil ⟨_, _, _, p, .nx, n₁.trans (n₂.nz f₁), f₁.next n₂⟩
  | true =>
    refine wpAny_mono (p.run s₂ n₂.ok (f₁.next n₂) _) ?_ fun _ _ x => x
    rintro fl s₃ ⟨l, ρ₃, σ₃, q, r, n₃, f₃⟩
    have nn := (n₁.trans (n₂.nz f₁)).trans n₃
    cases r with
    | nx => obtain ⟨m, hm, ρ₄, hs, i⟩ := q; exact ⟨m, hm, ρ₄, σ₃, i, nn, f₃.sub hs⟩
    | cont => obtain ⟨m, hm, ρ₄, hs, i⟩ := q; exact ⟨m, hm, ρ₄, σ₃, i, nn, f₃.sub hs⟩
    | brk => exact ⟨_, _, _, q, .nx, nn, f₃⟩
    | ret q' => exact ⟨_, _, _, q, .ret q', nn, f₃⟩
end
end Mine
namespace Mine

section
variable {C : Cx} {A : Around} {env : Env} {wr : Bool} {ρ : Rho} {σ : Sto} {E : Value → Shared → Prop} {s : Shared}

/-- expressions one behind the other -/
noncomputable def EvL (C : Cx) (A : Around) (env : Env) (wr : Bool) (ρ : Rho) : Sto → List Expr → (List D → Sto → Prop) → Prop
  | σ, [], P => P [] σ
  | σ, e :: es, P => Ev C A env wr ρ σ e fun d σ₁ => EvL C A env wr ρ σ₁ es fun ds σ₂ => P (d :: ds) σ₂

noncomputable def noStar : List Expr → Bool
  | [] => true
  | .Starred _ _ :: _ => false
  | _ :: r => noStar r
theorem noStar_cons {e : Expr} {es : List Expr} (h : noStar (e :: es) = true) : noStar es = true ∧ starEach (e :: es) env = (false, eval e env) :: starEach es env := by
  cases e <;> first | exact ⟨h, rfl⟩ | cases h
theorem noStar_any {pos : Pos} : ∀ {es : List Expr}, noStar es = true → (backTo pos (starEach es env)).any (·.1) = false
  | [], _ => rfl
  | e :: es, h => by
    obtain ⟨h1, h2⟩ := noStar_cons (env := env) h
    rw [h2]
    show (false || (backTo pos (starEach es env)).any (·.1)) = false
    rw [noStar_any h1]; rfl

theorem wp_spliced {pos : Pos} : ∀ {es : List Expr} {P : List D → Sto → Prop} {σ : Sto} {s : Shared}, noStar es = true → EvL C A env wr ρ σ es P → Ok C σ s.heap → Fm C σ s.heap env wr ρ →
    wpAny C.M A (spliced (backTo pos (starEach es env))) (fun vs s' => ∃ ds σ', P ds σ' ∧ RepL s'.heap (C.V σ') vs ds ∧ Nx C σ s σ' s') E s
  | [], P, σ, s, _, h, o, f => spliced_nil ⟨[], σ, h, .nil, .refl o⟩
  | e :: es, P, σ, s, hs, h, o, f => by
    obtain ⟨h1, h2⟩ := noStar_cons (env := env) hs
    rw [h2]
    show wpAny _ _ (spliced ((false, eval e env) :: backTo pos (starEach es env))) _ _ _
    refine spliced_cons (wpAny_mono (Ev.run h s o f E) ?_ fun _ _ x => x)
    rintro v s₁ ⟨d, σ₁, p, r, n₁⟩
    refine wpAny_mono (wp_spliced h1 p n₁.ok (f.next n₁)) ?_ fun _ _ x => x
    rintro vs s₂ ⟨ds, σ₂, q, rs, n₂⟩
    exact ⟨d :: ds, σ₂, q, .cons (r.next n₂) rs, n₁.trans n₂⟩

/-- keyword arguments, by their names -/
noncomputable def EvK (C : Cx) (A : Around) (env : Env) (wr : Bool) (ρ : Rho) : Sto → List Keyword → (List (Str × D) → Sto → Prop) → Prop
  | σ, [], P => P [] σ
  | σ, k :: es, P => Ev C A env wr ρ σ k.value fun d σ₁ => EvK C A env wr ρ σ₁ es fun ds σ₂ => P ((k.arg.getD Str.empty, d) :: ds) σ₂

theorem kws_all {pos : Pos} : ∀ {es : List Keyword}, es.all (·.arg.isSome) = true → (backToKw pos (keywordEach es env)).all (·.1.isSome) = true
  | [], _ => rfl
  | ⟨n, e, p⟩ :: es, h => by
    simp only [List.all_cons, Bool.and_eq_true] at h
    show (n.isSome && (backToKw pos (keywordEach es env)).all (·.1.isSome)) = true
    rw [kws_all h.2, h.1]; rfl
theorem kws_none {pos : Pos} : ∀ {es : List Keyword}, es.all (·.arg.isSome) = true → (backToKw pos (keywordEach es env)).any (·.1.isNone) = false
  | [], _ => rfl
  | ⟨n, e, p⟩ :: es, h => by
    simp only [List.all_cons, Bool.and_eq_true] at h
    show (n.isNone || (backToKw pos (keywordEach es env)).any (·.1.isNone)) = false
    rw [kws_none h.2]; cases n with
    | none => simp at h
    | some _ => rfl

theorem wp_kws {pos : Pos} : ∀ {es : List Keyword} {P : List (Str × D) → Sto → Prop} {σ : Sto} {s : Shared}, es.all (·.arg.isSome) = true → EvK C A env wr ρ σ es P → Ok C σ s.heap → Fm C σ s.heap env wr ρ →
    wpAny C.M A (evalAll ((backToKw pos (keywordEach es env)).map (·.2))) (fun vs s' => ∃ ds σ', P ds σ' ∧ (backToKw pos (keywordEach es env)).filterMap (·.1) = ds.map (·.1) ∧ RepL s'.heap (C.V σ') vs (ds.map (·.2)) ∧ Nx C σ s σ' s') E s
  | [], P, σ, s, _, h, o, f => wpAny_pure ⟨[], σ, h, rfl, .nil, .refl o⟩
  | ⟨none, e, p⟩ :: es, P, σ, s, hk, h, o, f => by simp at hk
  | ⟨some n, e, p⟩ :: es, P, σ, s, hk, h, o, f => by
    simp only [List.all_cons, Bool.and_eq_true] at hk
    show wpAny _ _ (evalAll ((do let v ← eval e env; standAt pos; pure v) :: (backToKw pos (keywordEach es env)).map (·.2))) _ _ _
    refine wpAny_evalAll_cons (wpAny_bind (wpAny_mono (Ev.run h s o f E) ?_ fun _ _ x => x))
    rintro v s₁ ⟨d, σ₁, p₁, r, n₁⟩
    refine wpAny_bind (wpAny_standAt (wpAny_pure ?_))
    refine wpAny_mono (wp_kws hk.2 p₁ n₁.ok (f.next n₁)) ?_ fun _ _ x => x
    rintro vs s₂ ⟨ds, σ₂, q, e₂, rs, n₂⟩
    exact ⟨(n, d) :: ds, σ₂, q, by show n :: (backToKw pos (keywordEach es env)).filterMap (·.1) = n :: ds.map (·.1); rw [e₂], .cons (r.next n₂) rs, n₁.trans n₂⟩

/-- a call of a value -/
structure Ca (C : Cx) (A : Around) (f : Value) (args : List D) (kw : List (Str × D)) (σ : Sto) (P : D → Sto → Prop) : Prop where
  run : ∀ s vs ks, Ok C σ s.heap → RepL s.heap (C.V σ) vs args → RepL s.heap (C.V σ) ks (kw.map (·.2)) → ∀ E, wpAny C.M A (call f vs ((kw.map (·.1)).zip ks)) (Gets C σ s P) E s

/-- how a callee is kept while it is called -/
noncomputable def Kp (C : Cx) (f : Value) : Prop := ∃ k, (k = Keeper.frame ∨ k = Keeper.machine ∨ k = Keeper.boundFrame) ∧ Looks C.M C.h₀ (keeperOf f) k
theorem kp_builtin {id : String} : Kp C (.builtin id) := ⟨.machine, .inr (.inl rfl), Looks.of_pure rfl⟩
theorem kp_type {id : String} : Kp C (.type id) := ⟨.machine, .inr (.inl rfl), Looks.of_pure rfl⟩
theorem kp_K {K : Frag} {f : Value} (X : K.In C.h₀) (h : keepIn K f = true) : Kp C f := keeps_K h _ X
theorem wp_callWith {pos : Pos} {f : Value} {first : List Value} {fd : List D} {args : List Expr} {kws : List Keyword} {P : D → Sto → Prop} (hf : Kp C f) (o : Ok C σ s.heap) (fm : Fm C σ s.heap env wr ρ) (rf : RepL s.heap (C.V σ) first fd)
    (h : EvL C A env wr ρ σ args fun ds σ₁ => EvK C A env wr ρ σ₁ kws fun ks σ₂ => Ca C A f (fd ++ ds) ks σ₂ P)
    (hs : noStar args = true) (hk : kws.all (·.arg.isSome) = true) :
    wpAny C.M A (callWith pos f first (backTo pos (starEach args env)) (backToKw pos (keywordEach kws env))) (Gets C σ s P) E s := by
  obtain ⟨k, hk', L⟩ := hf
  refine callWith_of (P := fun h => ∀ a o, C.h₀.get? a = some o → h.get? a = some o) (by rw [noStar_any hs, kws_none hk]; rfl) (fun h q => ⟨k, hk', L.keeps q⟩) ?_
  have key : wpAny C.M A (spliced (backTo pos (starEach args env))) (fun vs s₁ => wpAny C.M A (evalAll ((backToKw pos (keywordEach kws env)).map (·.2)))
      (fun ks s₂ => (∀ a o, C.h₀.get? a = some o → s₂.heap.get? a = some o) ∧ wpAny C.M A (call f (first ++ vs) (((backToKw pos (keywordEach kws env)).filterMap (·.1)).zip ks)) (Gets C σ s P) E s₂) E s₁) E s := by
    refine wpAny_mono (wp_spliced hs h o fm) ?_ fun _ _ x => x
    rintro vs s₁ ⟨ds, σ₁, p₁, r₁, n₁⟩
    refine wpAny_mono (wp_kws hk p₁ n₁.ok (fm.next n₁)) ?_ fun _ _ x => x
    rintro ks s₂ ⟨es, σ₂, p₂, e₂, r₂, n₂⟩
    refine ⟨n₂.ok.base, ?_⟩
    rw [e₂]
    exact wpAny_mono (p₂.run s₂ _ ks n₂.ok ((rf.next (n₁.trans n₂)).append (r₁.next n₂)) r₂ E) (fun _ _ g => Gets.next (n₁.trans n₂) g) fun _ _ x => x
  cases args with
  | nil =>
    refine evalArgs_kw_nil (kws_all hk) ?_
    exact fun Γ p hΓ => (key Γ p hΓ) Γ p hΓ
  | cons e es =>
    obtain ⟨_, h2⟩ := noStar_cons (env := env) hs
    rw [h2] at key ⊢
    exact evalArgs_kw (kws_all hk) key

theorem ev_call {f : Str} {p pos : Pos} {args : List Expr} {kws : List Keyword} {P : D → Sto → Prop}
    (h : Ev C A env wr ρ σ (.Name f p) fun fd σ₁ => ∃ fv, fd = .raw fv ∧ Kp C fv ∧ EvL C A env wr ρ σ₁ args fun ds σ₂ => EvK C A env wr ρ σ₂ kws fun ks σ₃ => Ca C A fv ds ks σ₃ P)
    (hs : noStar args = true := by rfl) (hk : kws.all (·.arg.isSome) = true := by rfl) : Ev C A env wr ρ σ (.Call (.Name f p) args kws pos) P := by
  constructor
  intro s o fm E
  refine wpAny_Call_Name_kw (wpAny_mono (h.run s o fm E) ?_ fun _ _ x => x)
  rintro v s₁ ⟨_, σ₁, ⟨fv, rfl, kp, q⟩, r, n₁⟩
  cases r
  exact wpAny_mono (wp_callWith kp n₁.ok (fm.next n₁) .nil q hs hk) (fun _ _ g => Gets.next n₁ g) fun _ _ x => x
end
end Mine
namespace Mine

section
variable {C : Cx} {A : Around} {env : Env} {wr : Bool} {ρ : Rho} {σ : Sto} {E : Value → Shared → Prop} {s : Shared}

theorem bindL_other {k : Str → Option NameKind} {x : Str} : ∀ (bs : List (Str × Value)) (m : Str → Option Value), x ∉ bs.map (·.1) → bindL k bs m x = m x
  | [], _, _ => rfl
  | (n, w) :: r, m, h => by
    simp only [List.map_cons, List.mem_cons, not_or] at h
    rw [bindL, bindL_other r _ h.2]
    split
    · show (if x = n then some w else m x) = m x; rw [if_neg h.1]
    · rfl
theorem bindC_other {k : Str → Option NameKind} {x : Str} : ∀ (bs : List (Str × Value)) (m : Str → Option Value), x ∉ bs.map (·.1) → bindC k bs m x = m x
  | [], _, _ => rfl
  | (n, w) :: r, m, h => by
    simp only [List.map_cons, List.mem_cons, not_or] at h
    rw [bindC, bindC_other r _ h.2]
    split
    · rfl
    · show (if x = n then some w else m x) = m x; rw [if_neg h.1]
theorem bindL_get {k : Str → Option NameKind} {x : Str} {v : Value} (hx : k x = some .local) : ∀ (bs : List (Str × Value)) (m : Str → Option Value), (bs.map (·.1)).Nodup → (x, v) ∈ bs → bindL k bs m x = some v
  | (n, w) :: r, m, hn, h => by
    simp only [List.map_cons, List.nodup_cons] at hn
    rw [bindL]
    rcases List.mem_cons.mp h with e | h
    · cases e
      rw [bindL_other r _ hn.1, if_pos hx]; simp
    · exact bindL_get hx r _ hn.2 h
theorem bindC_get {k : Str → Option NameKind} {x : Str} {v : Value} (hx : k x ≠ some .local) : ∀ (bs : List (Str × Value)) (m : Str → Option Value), (bs.map (·.1)).Nodup → (x, v) ∈ bs → bindC k bs m x = some v
  | (n, w) :: r, m, hn, h => by
    simp only [List.map_cons, List.nodup_cons] at hn
    rw [bindC]
    rcases List.mem_cons.mp h with e | h
    · cases e
      rw [bindC_other r _ hn.1, if_neg hx]; simp
    · exact bindC_get hx r _ hn.2 h

theorem zip_lookup {h : Heap} {S : List Addr} : ∀ {ρ₀ : Rho} {bs : List Value}, RepL h S bs (ρ₀.map (·.2)) → ∀ {x : Str} {d : D}, ρ₀.lookup x = some d → ∃ v, (x, v) ∈ (ρ₀.map (·.1)).zip bs ∧ Rep h S v d
  | [], _, _, _, _, e => by simp [List.lookup] at e
  | (y, f) :: r, bs, q, x, d, e => by
    cases q with
    | cons q1 q2 =>
      simp only [List.lookup] at e
      split at e
      · rename_i hxy
        have := eq_of_beq hxy; subst this
        cases e
        exact ⟨_, List.mem_cons_self .., q1⟩
      · obtain ⟨v, hv, rv⟩ := zip_lookup q2 e
        exact ⟨v, List.mem_cons_of_mem _ hv, rv⟩
theorem zip_names {ρ₀ : Rho} {bs : List Value} (h : bs.length = ρ₀.length) : ((ρ₀.map (·.1)).zip bs).map (·.1) = ρ₀.map (·.1) := by
  rw [List.map_fst_zip]; simp [h]

/-- the frame of a call -/
noncomputable def fenv (fd : FuncData) (fa L : Addr) : Env := newEnv fd.scope L fd.globals (cellsFrom (L + 1) fd.scope.names []) (fd.qualname ++ ".<locals>.") (some fa) fd.code none fd.builtins

/-- how arguments are bound -/
noncomputable def Bnd (C : Cx) (fd : FuncData) (args : List D) (kw : List (Str × D)) (σ : Sto) (R : Rho → Sto → Prop) : Prop :=
  ∀ A s vs ks, Ok C σ s.heap → RepL s.heap (C.V σ) vs args → RepL s.heap (C.V σ) ks (kw.map (·.2)) → ∀ E, wpAny C.M A (bindArgs fd ⟨vs, (kw.map (·.1)).zip ks⟩) (fun binds s₁ =>
    ∃ ρ₀ σ₁ bs, R ρ₀ σ₁ ∧ binds = (ρ₀.map (·.1)).zip bs ∧ RepL s₁.heap (C.V σ₁) bs (ρ₀.map (·.2)) ∧ Nx C σ s σ₁ s₁) E s

structure FnAt (C : Cx) (fa : Addr) (fd : FuncData) (body : List Stmt) : Prop where
  get : ∃ o, C.h₀.get? fa = some o ∧ o.data = .func fd
  code : C.h₀.CodeRec fd.code fd.qualname
  body : fd.body = .stmts body
  plain : (fd.closure.isEmpty && fd.globals == mainGlobals && fd.builtins == builtinsNs && !fd.scope.isCoroutine && !fd.scope.isGenerator && fd.scope.kind == .function) = true
noncomputable def bindsOk (fd : FuncData) (names : List Str) : Bool := (names.all fun x => fd.scope.names.lookup x == some .local || fd.scope.names.lookup x == some .cell) && decide names.Nodup

theorem free_of_size {h : Heap} {a : Addr} (o : Ok C σ h) (ha : h.objs.size ≤ a) : C.Free a ∧ a ∉ σ.S := by
  refine ⟨⟨?_, fun p hp e => ?_, fun hz => ?_⟩, fun hm => ?_⟩
  · cases e : C.h₀.get? a with
    | none => rfl
    | some x => exact absurd (Heap.lt_size (o.base _ _ e)) (Nat.not_lt.mpr ha)
  · have := Heap.lt_size (o.pin p hp); rw [e] at this; exact absurd this (Nat.not_lt.mpr ha)
  · obtain ⟨x, e⟩ := o.zs a hz; exact absurd (Heap.lt_size e) (Nat.not_lt.mpr ha)
  · obtain ⟨p, hp, e⟩ := List.mem_map.mp hm
    obtain ⟨n, q, _⟩ := o.at_ p hp
    have := Heap.lt_size q; rw [e] at this; exact absurd this (Nat.not_lt.mpr ha)

theorem mem_lookup {α : Type} {x : Str} {c : α} : ∀ {l : List (Str × α)}, l.lookup x = some c → (x, c) ∈ l
  | [], e => by simp [List.lookup] at e
  | (y, d) :: r, e => by
    simp only [List.lookup] at e
    split at e
    · rename_i h; have := eq_of_beq h; subst this; cases e; exact List.mem_cons_self ..
    · exact List.mem_cons_of_mem _ (mem_lookup e)
theorem pairwise_eq {l : List (Str × Addr)} (h : l.Pairwise fun x y => x.2 ≠ y.2) {x y : Str} {c : Addr} (hx : (x, c) ∈ l) (hy : (y, c) ∈ l) : x = y := by
  induction l with
  | nil => cases hx
  | cons p r ih =>
    rw [List.pairwise_cons] at h
    rcases List.mem_cons.mp hx with e | hx' <;> rcases List.mem_cons.mp hy with e' | hy'
    · rw [← e] at e'; cases e'; rfl
    · exact absurd (by rw [← e]) (h.1 _ hy')
    · exact absurd (by rw [← e']) (h.1 _ hx')
    · exact ih h.2 hx' hy'

theorem Rm.deeper {n : Nat} {A : Around} (r : Rm (n + 1) A) (env : Env) : Rm n (A.deeper env) := by
  refine ⟨r.handled, ?_, ?_⟩
  · have := r.depth; show A.depth + 1 + n < 600; omega
  · have := r.units; show A.units + 3 + 12 * n < 8000; omega

theorem ca_fun {fa : Addr} {fd : FuncData} {body : List Stmt} {args : List D} {kw : List (Str × D)} {P : D → Sto → Prop} {n : Nat} (rm : Rm (n + 1) A) (F : FnAt C fa fd body)
    (hb : Bnd C fd args kw σ fun ρ₀ σ₁ => bindsOk fd (ρ₀.map (·.1)) = true ∧
      ∀ L, Ex C (A.deeper (fenv fd fa L)) (fenv fd fa L) true ρ₀ σ₁ body fun fl _ σ' => P (match fl with | .ret d => d | _ => .none) σ') : Ca C A (.ref fa) args kw σ P := by
  constructor
  intro s vs ks o r q E
  obtain ⟨⟨ob, ho, hd⟩, hcd, hbody, hpl⟩ := F
  simp only [Bool.and_eq_true, beq_iff_eq, Bool.not_eq_true', List.isEmpty_iff] at hpl
  obtain ⟨⟨⟨⟨⟨hcl, hgl⟩, hbl⟩, hco⟩, hgen⟩, hk⟩ := hpl
  refine wpAny_call (codeAny_call_function (by have := rm.depth; show A.depth < 1000; omega) (o.base _ _ ho) hd hco hgen hbody (hcd.keeps o.base) ?_)
  refine wpAny_mono (hb _ s vs ks o r q _) ?_ fun _ _ x => x
  rintro binds s₁ ⟨ρ₀, σ₁, bs, ⟨hok, hx⟩, rfl, rb, n₁⟩
  simp only [bindsOk, Bool.and_eq_true, decide_eq_true_eq] at hok
  have hnm : ((ρ₀.map (·.1)).zip bs).map (·.1) = ρ₀.map (·.1) := zip_names (by have := rb.length; simpa using this)
  have hall : (((ρ₀.map (·.1)).zip bs).all fun y => fd.scope.names.lookup y.1 == some .local || fd.scope.names.lookup y.1 == some .cell) = true := by
    rw [List.all_eq_true]
    intro y hy
    exact List.all_eq_true.mp hok.1 y.1 (hnm ▸ List.mem_map_of_mem hy)
  rw [hcl]
  refine wpAny_newFunctionEnv_cells hk (kindsX hall _) ?_
  rintro env' rfl s₂ ic
  have icm := ic.toInCall
  obtain ⟨h₂, tk, e₂⟩ := icm.same
  have L0 : (newEnv fd.scope s₁.heap.objs.size fd.globals (cellsFrom (s₁.heap.objs.size + 1) fd.scope.names []) (fd.qualname ++ ".<locals>.") (some fa) fd.code none fd.builtins) = fenv fd fa s₁.heap.objs.size := rfl
  rw [L0] at ic icm ⊢
  have n₂ : Nx C σ₁ s₁ σ₁ s₂ := Nx.of_keeps n₁.ok icm.keep (by rw [e₂]) (by rw [e₂])
  have hL : (fenv fd fa s₁.heap.objs.size).locals = s₁.heap.objs.size := rfl
  have fm : Fm C σ₁ s₂.heap (fenv fd fa s₁.heap.objs.size) true ρ₀ := by
    refine ⟨⟨_, icm.ns, fun x d e => ?_⟩, hk, hgl, hbl, ?_, fun x c hc => ?_, fun x y c hx hy => ?_⟩
    · obtain ⟨v, hv, rv⟩ := zip_lookup rb e
      refine ⟨v, rv.next n₂, ?_⟩
      have hnd : (((ρ₀.map (·.1)).zip bs).map (·.1)).Nodup := by rw [hnm]; exact hok.2
      rcases kindsX hall (s₁.heap.objs.size + 1) _ hv with hx | ⟨hx, hs⟩
      · exact .inl ⟨hx, bindL_get hx _ _ hnd hv⟩
      · obtain ⟨c, hc⟩ := Option.isSome_iff_exists.mp hs
        refine .inr ⟨.inl hx, c, hc, ?_⟩
        have := ic.cell x c hc
        rwa [bindC_get (k := (fenv fd fa s₁.heap.objs.size).kindOf) (by show fd.scope.names.lookup x ≠ some .local; rw [hx]; intro z; cases z) _ _ hnd hv] at this
    · exact free_of_size n₁.ok (Nat.le_refl _)
    · have ab := ic.above x c (mem_lookup hc)
      have fr := free_of_size n₁.ok (Nat.le_of_lt ab)
      exact ⟨⟨_, ic.cell x c hc⟩, fun z => by rw [z] at ab; exact Nat.lt_irrefl _ ab, fr.2, fun _ => fr.1⟩
    · exact pairwise_eq ic.apart (mem_lookup hx) (mem_lookup hy)
  refine ⟨?_, codeAny_func (wpAny_mono ((hx _).run s₂ n₂.ok fm _) ?_ fun _ _ x => x)⟩
  · obtain ⟨mc, hn, hm⟩ := C.lim; exact ⟨mc, Ns.keep hn n₂.ok.base, hm⟩
  rintro fl s₃ ⟨l, ρ', σ', p, rf, n₃, _⟩
  have fin : Nx C σ s σ' s₃ := by
    refine n₁.trans ⟨n₃.ok, fun a x e hn => ?_, n₃.gens.trans n₂.gens, n₃.os.trans n₂.os⟩
    refine n₃.le a x (icm.keep _ _ e) hn ?_
    have lt := Heap.lt_size e
    rintro (z | ⟨_, y, hc⟩)
    · rw [z, hL] at lt; exact Nat.lt_irrefl _ lt
    · have := ic.above y a (mem_lookup hc); exact absurd (Nat.lt_trans lt this) (Nat.lt_irrefl _)
  cases rf with
  | ret r => exact ⟨_, _, p, r, fin⟩
  | _ => exact ⟨_, _, p, .none, fin⟩

theorem bnd_pure {fd : FuncData} {args : List D} {kw : List (Str × D)} {R : Rho → Sto → Prop} (ρ₀ : Rho) (h : R ρ₀ σ)
    (hb : ∀ s vs ks, Ok C σ s.heap → RepL s.heap (C.V σ) vs args → RepL s.heap (C.V σ) ks (kw.map (·.2)) → ∃ bs, BindsTo s fd ⟨vs, (kw.map (·.1)).zip ks⟩ ((ρ₀.map (·.1)).zip bs) ∧ RepL s.heap (C.V σ) bs (ρ₀.map (·.2))) : Bnd C fd args kw σ R := by
  intro A s vs ks o r q E
  obtain ⟨bs, b, rb⟩ := hb s vs ks o r q
  exact b _ _ _ _ ⟨ρ₀, σ, bs, h, rfl, rb, .refl o⟩
theorem bnd1 {fd : FuncData} {x : Str} {d : D} {R : Rho → Sto → Prop} (hb : ∀ v, bindArgs fd ⟨[v], []⟩ = pure [(x, v)]) (h : R [(x, d)] σ) : Bnd C fd [d] [] σ R :=
  bnd_pure [(x, d)] h fun s vs ks o r q => by
    cases q
    cases r with | cons r1 r => cases r; exact ⟨[_], .of_eq (hb _), .cons r1 .nil⟩
theorem bnd2 {fd : FuncData} {x y : Str} {d e : D} {R : Rho → Sto → Prop} (hb : ∀ v u, bindArgs fd ⟨[v, u], []⟩ = pure [(x, v), (y, u)]) (h : R [(x, d), (y, e)] σ) : Bnd C fd [d, e] [] σ R :=
  bnd_pure [(x, d), (y, e)] h fun s vs ks o r q => by
    cases q
    cases r with | cons r1 r => cases r with | cons r2 r => cases r; exact ⟨[_, _], .of_eq (hb _ _), .cons r1 (.cons r2 .nil)⟩
theorem bnd3 {fd : FuncData} {x y z : Str} {d e f : D} {R : Rho → Sto → Prop} (hb : ∀ v u w, bindArgs fd ⟨[v, u, w], []⟩ = pure [(x, v), (y, u), (z, w)]) (h : R [(x, d), (y, e), (z, f)] σ) : Bnd C fd [d, e, f] [] σ R :=
  bnd_pure [(x, d), (y, e), (z, f)] h fun s vs ks o r q => by
    cases q
    cases r with | cons r1 r => cases r with | cons r2 r => cases r with | cons r3 r => cases r; exact ⟨[_, _, _], .of_eq (hb _ _ _), .cons r1 (.cons r2 (.cons r3 .nil))⟩
theorem bnd4 {fd : FuncData} {x y z t : Str} {d e f g : D} {R : Rho → Sto → Prop} (hb : ∀ v u w q, bindArgs fd ⟨[v, u, w, q], []⟩ = pure [(x, v), (y, u), (z, w), (t, q)]) (h : R [(x, d), (y, e), (z, f), (t, g)] σ) : Bnd C fd [d, e, f, g] [] σ R :=
  bnd_pure [(x, d), (y, e), (z, f), (t, g)] h fun s vs ks o r q => by
    cases q
    cases r with | cons r1 r => cases r with | cons r2 r => cases r with | cons r3 r => cases r with | cons r4 r => cases r; exact ⟨[_, _, _, _], .of_eq (hb _ _ _ _), .cons r1 (.cons r2 (.cons r3 (.cons r4 .nil)))⟩
end
end Mine
namespace Mine

abbrev Src := Option (Addr × List Value × List D)
noncomputable def InSt : Src → Sto → Prop
  | none, _ => True
  | some p, σ => p ∈ σ

section
variable {C : Cx} {A : Around} {env : Env} {wr : Bool} {ρ : Rho} {σ : Sto} {E : Value → Shared → Prop} {s : Shared}

theorem Seqs.trans {h h' h'' : Heap} {S S' S'' : List Addr} (x : Seqs h S h' S') (y : Seqs h' S' h'' S'') : Seqs h S h'' S'' :=
  fun a o e n q => y a o (x a o e n q).1 (x a o e n q).2 q
theorem upd_keep {a : Addr} {h h' : Heap} (o : Ok C σ h) (ha : C.Free a) (hS : a ∉ σ.S) (hb : ∀ b x, b ≠ a → h.get? b = some x → h'.get? b = some x) (hq : ∀ x, h.get? a = some x → ¬ Frz x) :
    Ok C σ h' ∧ Seqs h (C.V σ) h' (C.V σ) := by
  have sq : Seqs h (C.V σ) h' (C.V σ) := fun b x e n q => by
    have hne : b ≠ a := fun z => by subst z; exact hq x e q
    exact ⟨hb b x hne e, n⟩
  refine ⟨⟨fun b x e => ?_, fun p hp => hb _ _ (ha.2.1 p hp) (o.pin p hp), o.off, fun p hp => ?_, o.nd, fun b hb' => (o.zs b hb').imp fun x e => hb b x (fun z => ha.2.2 (z ▸ hb')) e⟩, sq⟩
  · have hne : b ≠ a := fun z => by subst z; rw [ha.1] at e; cases e
    exact hb b x hne (o.base b x e)
  · obtain ⟨n, e, r⟩ := o.at_ p hp
    have hne : p.1 ≠ a := fun z => hS (z ▸ List.mem_map_of_mem hp)
    exact ⟨n, hb _ _ hne e, r.mono sq⟩
theorem Fm.but {a : Addr} {h h' : Heap} (f : Fm C σ h env wr ρ) (hb : ∀ b x, b ≠ a → h.get? b = some x → h'.get? b = some x) (ho : ¬ Own env a) (sq : Seqs h (C.V σ) h' (C.V σ)) : Fm C σ h' env wr ρ := by
  have hL : env.locals ≠ a := fun z => ho (.inl z.symm)
  have hc : ∀ x c, env.cells.lookup x = some c → c ≠ a := fun x c e z => ho (.inr ⟨x, z ▸ e⟩)
  obtain ⟨ml, ⟨oL, es, ep, e, r⟩, hh⟩ := f.has
  refine ⟨⟨ml, ⟨oL, es, ep, hb _ _ hL e, r⟩, fun x d q => ?_⟩, f.kind, f.glob, f.blt, f.offL, fun x c q => ?_, f.apart⟩
  · obtain ⟨v, rv, k⟩ := hh x d q
    exact ⟨v, rv.mono sq, k.imp id fun ⟨k1, c, k2, o, k3, k4⟩ => ⟨k1, c, k2, o, hb _ _ (hc x c k2) k3, k4⟩⟩
  · obtain ⟨⟨v, o, k3, k4⟩, n⟩ := f.cells x c q
    exact ⟨⟨v, o, hb _ _ (hc x c q) k3, k4⟩, n⟩
theorem own_not_frz {h : Heap} (f : Fm C σ h env wr ρ) {a : Addr} (ho : Own env a) {o : Obj} (e : h.get? a = some o) : ¬ Frz o := by
  rcases ho with rfl | ⟨x, hc⟩
  · obtain ⟨ml, ⟨oL, es, ep, e', hd, _⟩, _⟩ := f.has
    rw [e'] at e; cases e
    rintro (⟨_, _, z⟩ | ⟨⟨_, z⟩, _⟩) <;> rw [hd] at z <;> cases z
  · obtain ⟨⟨v, o', e', hd⟩, _⟩ := f.cells x a hc
    rw [e'] at e; cases e
    rintro (⟨_, _, z⟩ | ⟨⟨_, z⟩, _⟩) <;> rw [hd] at z <;> cases z
theorem Nz.seqs {σ' : Sto} {s' : Shared} (x : Nz C env wr σ s σ' s') (f : Fm C σ s.heap env wr ρ) : Seqs s.heap (C.V σ) s'.heap (C.V σ') := fun a o e n q => by
  simp only [Cx.V, List.mem_append, not_or] at n ⊢
  have := x.le a o e n.1 fun w => own_not_frz f w.own e q
  exact ⟨this.1, this.2, n.2⟩
theorem free_of_none {h : Heap} {a : Addr} (o : Ok C σ h) (ha : h.get? a = none) : C.Free a ∧ a ∉ σ.S := by
  refine ⟨⟨?_, fun p hp e => ?_, fun hz => ?_⟩, fun hm => ?_⟩
  · cases e : C.h₀.get? a with
    | none => rfl
    | some x => have := o.base _ _ e; rw [ha] at this; cases this
  · have := o.pin p hp; rw [e, ha] at this; cases this
  · obtain ⟨x, e⟩ := o.zs a hz; rw [ha] at e; cases e
  · obtain ⟨p, hp, e⟩ := List.mem_map.mp hm
    obtain ⟨n, q, _⟩ := o.at_ p hp
    rw [e, ha] at q; cases q
theorem not_own_of_none {h : Heap} {a : Addr} (f : Fm C σ h env wr ρ) (ha : h.get? a = none) : ¬ Own env a := by
  rintro (rfl | ⟨x, hc⟩)
  · obtain ⟨ml, ⟨oL, es, ep, e', _⟩, _⟩ := f.has; rw [ha] at e'; cases e'
  · obtain ⟨⟨v, o', e', _⟩, _⟩ := f.cells x a hc; rw [ha] at e'; cases e'

/-- an assignment to a target -/
structure Asg (C : Cx) (A : Around) (env : Env) (wr : Bool) (ρ : Rho) (σ : Sto) (t : Expr) (d : D) (P : Rho → Sto → Prop) : Prop where
  run : ∀ s v, Ok C σ s.heap → Fm C σ s.heap env wr ρ → Rep s.heap (C.V σ) v d → ∀ E, wpAny C.M A (assign t env v) (fun _ s' => ∃ ρ' σ', P ρ' σ' ∧ Nz C env wr σ s σ' s' ∧ Fm C σ' s'.heap env wr ρ') E s
theorem asg_name {x : Str} {pos : Pos} {d : D} {P : Rho → Sto → Prop} (hx : CanSt env wr x) (h : P (setR ρ x d) σ) : Asg C A env wr ρ σ (.Name x pos) d P :=
  ⟨fun _ _ o f r _ => wpAny_assign_Name (wp_store o f r hx fun _ n f' => ⟨_, _, h, n, f'⟩)⟩

/-- an iterator at work -/
structure Wk (C : Cx) (A : Around) (I : Addr) (src : Src) (items : List D) (St : Nat → Heap → Sto → Prop) : Prop where
  frame : ∀ i h σ h' σ', St i h σ → (∀ o, h.get? I = some o → h'.get? I = some o) → Seqs h (C.V σ) h' (C.V σ') → Ok C σ' h' → InSt src σ' → St i h' σ'
  item : ∀ i σ (s : Shared) (Q : Option Value → Shared → Prop) (E : Value → Shared → Prop) d, items[i]? = some d → St i s.heap σ → Ok C σ s.heap → InSt src σ →
    (∀ v s', (Ok C σ s'.heap → Seqs s.heap (C.V σ) s'.heap (C.V σ) → Rep s'.heap (C.V σ) v d ∧ St (i + 1) s'.heap σ) → (∀ b o, b ≠ I → s.heap.get? b = some o → s'.heap.get? b = some o) → s'.gens = s.gens → s'.os = s.os → Q (some v) s') → wpAny C.M A (pyNext (.ref I)) Q E s
  done : ∀ σ (s : Shared) (Q : Option Value → Shared → Prop) (E : Value → Shared → Prop), St items.length s.heap σ → Ok C σ s.heap → InSt src σ →
    (∀ s', (∀ b o, b ≠ I → s.heap.get? b = some o → s'.heap.get? b = some o) → s'.gens = s.gens → s'.os = s.os → Q none s') → wpAny C.M A (pyNext (.ref I)) Q E s
  self : ∀ i σ (s : Shared) (Q : Value → Shared → Prop) (E : Value → Shared → Prop), St i s.heap σ → Q (.ref I) s → wpAny C.M A (pyIter (.ref I)) Q E s
  go : ∀ t i σ (s : Shared) v (Q : Unit → Shared → Prop) (E : Value → Shared → Prop), St i s.heap σ → Q () s → wpAny C.M A (letOwnedTupleGo t (.ref I) v) Q E s
  nf : ∀ i h σ, St i h σ → ∀ o, h.get? I = some o → ¬ Frz o
  ex : ∀ i h σ, St i h σ → ∃ o, h.get? I = some o

/-- what comes of iterating over a datum -/
noncomputable def Itr (C : Cx) (A : Around) (d : D) (σ : Sto) (src : Src) (items : List D) : Prop :=
  ∀ s v, Ok C σ s.heap → Rep s.heap (C.V σ) v d → ∀ E Q, (∀ I (St : List Addr → Nat → Heap → Sto → Prop) s', (∀ Zs, Wk (C.withZ Zs) A I src items (St Zs)) → (∀ Zs h'', (∀ o, s'.heap.get? I = some o → h''.get? I = some o) → Seqs s.heap (C.V σ) h'' ((C.withZ Zs).V σ) → St Zs 0 h'' σ) → s.heap.get? I = none → (∀ a o, s.heap.get? a = some o → s'.heap.get? a = some o) → s'.gens = s.gens → s'.os = s.os → Q (.ref I) s') → wpAny C.M A (pyIter v) Q E s

noncomputable def Turns (C : Cx) (A : Around) (env : Env) (wr : Bool) (t : Expr) (body : List Stmt) (P : Fl → Rho → Sto → Prop) (src : Src) : List D → Rho → Sto → Prop
  | [], ρ, σ => P .nx ρ σ
  | d :: ds, ρ, σ => Asg C A env wr ρ σ t d fun ρ₁ σ₁ => Ex C A env wr ρ₁ σ₁ body fun fl ρ₂ σ₂ => match fl with
    | .nx => InSt src σ₂ ∧ Turns C A env wr t body P src ds ρ₂ σ₂
    | .cont => InSt src σ₂ ∧ Turns C A env wr t body P src ds ρ₂ σ₂
    | .brk => P .nx ρ₂ σ₂
    | .ret d => P (.ret d) ρ₂ σ₂

theorem forLoop2 {prog : Program} {w : World} {R : Result → Shared → Prop} {target : Expr} {it : Value} {body orelse : List Stmt} (I : Nat → Shared → Prop)
    (turn : ∀ n s, I n s → wpAny (model prog w) A (pyNext it) (fun r s₁ => match r with
      | none => wpAny (model prog w) A (execs orelse env) (fun f s₃ => R (.ok f) s₃) (notedBy (model prog w) A env fun e s' => R (.error e) s') s₁
      | some v => wpAny (model prog w) A (letOwnedTupleGo target it v) (fun _ s₀ => wpAny (model prog w) A (assign target env v) (fun _ s₂ => wpAny (model prog w) A (execs body env) (fun f s₃ => match f with
          | .next | .cont => ∃ m, m < n ∧ I m s₃
          | .brk => R (.ok .next) s₃
          | .ret v => R (.ok (.ret v)) s₃) (notedBy (model prog w) A env fun e s' => R (.error e) s') s₂) (notedBy (model prog w) A env fun e s' => R (.error e) s') s₀) (notedBy (model prog w) A env fun e s' => R (.error e) s') s₁) (notedBy (model prog w) A env fun e s' => R (.error e) s') s)
    (n : Nat) (h : I n s) : codeAny (model prog w) A (.forLoop target it body orelse env) R s := by
  refine codeAny_loop' rfl I (fun n s hI => ?_) n h
  show wpAny _ _ ((forTurn target it body orelse env).onRaise (fun x => do noteFrame x env; theTreesLotGoes x)) _ _ s
  refine wpAny_noted ?_
  simp only [forTurn]
  refine wpAny_bind (wpAny_standAt (wpAny_bind (wpAny_onRaise (wpAny_mono (turn n s hI) (fun r s₁ h₁ => ?_) fun _ _ h' => wpAny_standAt h'))))
  cases r with
  | none => exact wpAny_pure (.inr ⟨rfl, codeAny_block h₁⟩)
  | some v =>
    refine wpAny_bind (wpAny_mono h₁ (fun _ s₀ h₀ => ?_) fun _ _ h' => h')
    refine wpAny_bind (wpAny_mono h₀ (fun _ s₂ h₂ => wpAny_bind (wpAny_mono h₂ (fun f s₃ h₃ => ?_) fun _ _ h' => h')) fun _ _ h' => h')
    cases f with
    | next => exact wpAny_pure (.inl ⟨rfl, h₃⟩)
    | cont => exact wpAny_pure (.inl ⟨rfl, h₃⟩)
    | brk => exact wpAny_pure h₃
    | ret v => exact wpAny_pure h₃

/-- one look of the iterator, from inside a frame -/
theorem iter_step {s₀ s₁ s₂ : Shared} {σ₁ : Sto} {ρ₁ : Rho} {I : Addr} (nz : Nz C env wr σ s₀ σ₁ s₁) (f : Fm C σ₁ s₁.heap env wr ρ₁) (hI : s₀.heap.get? I = none) (fr : C.Free I) (hS : I ∉ σ₁.S) (ho : ¬ Own env I)
    (nf : ∀ o, s₁.heap.get? I = some o → ¬ Frz o) (hb : ∀ b o, b ≠ I → s₁.heap.get? b = some o → s₂.heap.get? b = some o) (hg : s₂.gens = s₁.gens) (hos : s₂.os = s₁.os) :
    Nz C env wr σ s₀ σ₁ s₂ ∧ Fm C σ₁ s₂.heap env wr ρ₁ ∧ Seqs s₁.heap (C.V σ₁) s₂.heap (C.V σ₁) := by
  obtain ⟨ok, sq⟩ := upd_keep nz.ok fr hS hb nf
  refine ⟨⟨ok, fun a o e n w => ?_, nz.own, hg.trans nz.gens, hos.trans nz.os⟩, f.but hb ho sq, sq⟩
  have := nz.le a o e n w
  exact ⟨hb a o (fun z => by rw [z, hI] at e; cases e) this.1, this.2⟩

theorem ex1_for {target iter : Expr} {body : List Stmt} {pos : Pos} {P : Fl → Rho → Sto → Prop}
    (h : Ev C A env wr ρ σ iter fun d σ₁ => ∃ src items, Itr C A d σ₁ src items ∧ InSt src σ₁ ∧ Turns C A env wr target body P src items ρ σ₁)
    (hs : ∀ x, foldedSetIterable iter env x = pure x := by intro _; rfl) : Ex1 C A env wr ρ σ (.For target iter body [] pos) P := by
  constructor
  intro s o f E
  refine wpAny_For (wpAny_mono (h.run s o f E) ?_ fun _ _ x => x) hs
  rintro v s₁ ⟨d, σ₁, ⟨src, items, it, hin, tn⟩, r, n₁⟩
  refine it s₁ v n₁.ok r _ _ fun I St s₂ W st hI hk hg hos => ?_
  have W : Wk C A I src items (St C.Z) := W C.Z
  have st := st C.Z s₂.heap (fun _ e => e)
  generalize St C.Z = St at W st
  have f₁ := f.next n₁
  have n₂ : Nx C σ₁ s₁ σ₁ s₂ := Nx.of_keeps n₁.ok hk hg hos
  have st0 := st n₂.le.v
  obtain ⟨fr, hS⟩ := free_of_none n₁.ok hI
  have ho := not_own_of_none f₁ hI
  refine forLoop2 (fun n s' => ∃ k ρ' σ', n = items.length - k ∧ k ≤ items.length ∧ St k s'.heap σ' ∧ InSt src σ' ∧ Turns C A env wr target body P src (items.drop k) ρ' σ' ∧ Nz C env wr σ₁ s₁ σ' s' ∧ Fm C σ' s'.heap env wr ρ' ∧ I ∉ σ'.S)
    ?_ (items.length - 0) ⟨0, ρ, σ₁, rfl, Nat.zero_le _, st0, hin, tn, n₂.nz f₁, f₁.next n₂, hS⟩
  rintro n s₃ ⟨k, ρ₃, σ₃, rfl, hk, st₃, in₃, t₃, nz₃, f₃, hS₃⟩
  by_cases hlt : k < items.length
  · have hd : items[k]? = some items[k] := by simp [hlt]
    rw [List.drop_eq_getElem_cons hlt] at t₃
    refine W.item k σ₃ s₃ _ _ _ hd st₃ nz₃.ok in₃ fun v s₄ hv hb hg₄ hos₄ => ?_
    obtain ⟨nz₄, f₄, sq₄⟩ := iter_step nz₃ f₃ hI fr hS₃ ho (W.nf _ _ _ st₃) hb hg₄ hos₄
    obtain ⟨rv, st₄⟩ := hv nz₄.ok sq₄
    refine W.go _ _ _ s₄ v _ _ st₄ ?_
    refine wpAny_mono (Asg.run t₃ s₄ v nz₄.ok f₄ rv _) ?_ fun _ _ x => x
    rintro _ s₅ ⟨ρ₅, σ₅, ex, nz₅, f₅⟩
    refine wpAny_mono (ex.run s₅ nz₅.ok f₅ _) ?_ fun _ _ x => x
    rintro fl s₆ ⟨l, ρ₆, σ₆, p, rf, nz₆, f₆⟩
    have nz := (nz₄.trans nz₅).trans nz₆
    have keepI : (∀ o, s₄.heap.get? I = some o → s₆.heap.get? I = some o) := fun o e => ((nz₅.trans nz₆).le I o e hS₃ fun w => ho w.own).1
    have again : InSt src σ₆ ∧ Turns C A env wr target body P src (items.drop (k + 1)) ρ₆ σ₆ → ∃ m, m < items.length - k ∧ ∃ k ρ' σ', m = items.length - k ∧ k ≤ items.length ∧ St k s₆.heap σ' ∧ InSt src σ' ∧ Turns C A env wr target body P src (items.drop k) ρ' σ' ∧ Nz C env wr σ₁ s₁ σ' s₆ ∧ Fm C σ' s₆.heap env wr ρ' ∧ I ∉ σ'.S := by
      rintro ⟨in₆, t₆⟩
      have hI6 : I ∉ σ₆.S := by
        obtain ⟨o, e⟩ := W.ex _ _ _ st₄; exact ((nz₅.trans nz₆).le I o e hS₃ fun w => ho w.own).2
      exact ⟨items.length - (k + 1), by omega, k + 1, ρ₆, σ₆, rfl, hlt, W.frame _ _ _ _ _ st₄ keepI ((nz₅.trans nz₆).seqs f₄) nz.ok in₆, in₆, t₆, nz, f₆, hI6⟩
    cases rf with
    | nx => exact again p
    | cont => exact again p
    | brk => exact ⟨_, _, _, p, .nx, (n₁.nz f).trans nz, f₆⟩
    | ret q => exact ⟨_, _, _, p, .ret q, (n₁.nz f).trans nz, f₆⟩
  · have hk' : k = items.length := by omega
    subst hk'
    rw [List.drop_length] at t₃
    refine W.done σ₃ s₃ _ _ st₃ nz₃.ok in₃ fun s₄ hb hg₄ hos₄ => ?_
    obtain ⟨nz₄, f₄, _⟩ := iter_step nz₃ f₃ hI fr hS₃ ho (W.nf _ _ _ st₃) hb hg₄ hos₄
    exact wpAny_execs_nil ⟨_, _, _, t₃, .nx, (n₁.nz f).trans nz₄, f₄⟩
end
end Mine
namespace Mine

section
variable {C : Cx} {A : Around} {env : Env} {wr : Bool} {ρ : Rho} {σ : Sto} {E : Value → Shared → Prop} {s : Shared}

theorem go_iter {M : Model} {t : Expr} {I : Addr} {v : Value} {o : Obj} {cn : String} {fs : Array Value} {Q : Unit → Shared → Prop} (ho : s.heap.get? I = some o) (hc : o.cls = .type cn) (hd : o.data = .fields fs)
    (hn : (["enumerate", "zip", "dict_itemiterator", "dict_reverseitemiterator", "odict_iterator", "itertools.zip_longest", "itertools.pairwise"] : List String).contains cn = false) (h : Q () s) : wpAny M A (letOwnedTupleGo t (.ref I) v) Q E s := by
  unfold letOwnedTupleGo
  split
  all_goals first
    | exact wpAny_pure h
    | (split
       · rename_i _ _ _ e
         injection e with e1 e2
         injection e1 with e1
         subst e1
         refine wpAny_bind (wpAny_load ho ?_)
         rw [hc, hd]
         simp only [hn, Bool.false_and, Bool.false_eq_true, if_false]
         exact wpAny_pure h
       · exact wpAny_pure h)

theorem wk_list (hh : A.handled = none) {I ax : Addr} {vs : List Value} {ds : List D} (hne : ax ≠ I) :
    Wk C A I none ds (fun i h σ => h.IsListIter I ax i ∧ h.IsList ax vs.toArray ∧ ax ∉ C.V σ ∧ RepL h (C.V σ) vs ds) where
  frame := fun i h σ h' σ' st kI sq _ _ => by
    obtain ⟨⟨o, ho, r⟩, ⟨ol, hl, hc, n, hd⟩, hn, rl⟩ := st
    have := sq ax ol hl hn (.inl ⟨_, _, hd⟩)
    exact ⟨⟨o, kI o ho, r⟩, ⟨ol, this.1, hc, n, hd⟩, this.2, rl.mono sq⟩
  item := fun i σ s Q E d hd st ok _ hQ => by
    obtain ⟨v, hv, rv⟩ := st.2.2.2.get hd
    refine wpAny_pyNext_list_item st.1 st.2.1 (x := v) (by simpa using hv) fun h' hit hb => ?_
    refine hQ v _ (fun ok' sq => ⟨rv.mono sq, hit, ?_, st.2.2.1, st.2.2.2.mono sq⟩) (fun b o hne e => (hb.2 b hne).trans e) rfl rfl
    exact st.2.1.extBut hb.extBut hne
  done := fun σ s Q E st ok _ hQ => by
    refine wpAny_pyNext_list_end hh st.1 st.2.1 (by have := st.2.2.2.length; simp [this]) fun h' he => ?_
    exact hQ _ (fun b o hne e => he b o hne e) rfl rfl
  self := fun i σ s Q E st hQ => wpAny_pyIter_listiter st.1 hQ
  go := fun t i σ s v Q E st hQ => by
    obtain ⟨⟨o, ho, hc, hd⟩, _⟩ := st
    exact go_iter ho hc hd (by decide) hQ
  ex := fun i h σ st => by obtain ⟨⟨o', ho, _⟩, _⟩ := st; exact ⟨_, ho⟩
  nf := fun i h σ st o e => by
    obtain ⟨⟨o', ho, hc, hd⟩, _⟩ := st
    rw [ho] at e; cases e
    rintro (⟨_, _, z⟩ | ⟨_, z⟩)
    · rw [hd] at z; cases z
    · rw [hc] at z; exact absurd z (by decide)

theorem none_at_size {h : Heap} : h.get? h.objs.size = none := by
  cases e : h.get? h.objs.size with
  | none => rfl
  | some o => exact absurd (Heap.lt_size e) (Nat.lt_irrefl _)
theorem itr_list (hh : A.handled = none) {ds : List D} : Itr C A (.list ds) σ none ds := by
  intro s v ok r E Q hQ
  cases r with
  | list hl hn rl =>
    rename_i a vs
    have hlt : a < s.heap.objs.size := let ⟨_, e, _⟩ := hl; Heap.lt_size e
    refine wpAny_pyIter_list hl ?_
    refine hQ s.heap.objs.size _ _ (fun Zs => wk_list (C := C.withZ Zs) hh (vs := vs) (Nat.ne_of_lt hlt)) (fun Zs h'' kI sq => ?_) none_at_size (fun b o e => Heap.get?_push_of_some _ e) rfl rfl
    obtain ⟨ol, e, hc, n, hd⟩ := hl
    have := sq a ol e hn (.inl ⟨_, _, hd⟩)
    exact ⟨⟨_, kI _ (Heap.get?_push_size _ rfl), rfl, rfl⟩, ⟨ol, this.1, hc, n, hd⟩, this.2, rl.mono sq⟩

/-- the store's own list -/
theorem wk_store (hh : A.handled = none) {I l : Addr} {vs : List Value} {ds : List D} (hne : l ≠ I) :
    Wk C A I (some (l, vs, ds)) ds (fun i h _ => h.IsListIter I l i) where
  frame := fun i h σ h' σ' st kI sq _ _ => by
    obtain ⟨o, ho, r⟩ := st
    exact ⟨o, kI o ho, r⟩
  item := fun i σ s Q E d hd st ok hin hQ => by
    obtain ⟨n, e, rl⟩ := ok.at_ _ hin
    have hl : s.heap.IsList l vs.toArray := ⟨_, e, rfl, n, rfl⟩
    obtain ⟨v, hv, rv⟩ := rl.get hd
    refine wpAny_pyNext_list_item st hl (x := v) (by simpa using hv) fun h' hit hb => ?_
    exact hQ v _ (fun ok' sq => ⟨rv.mono sq, hit⟩) (fun b o hne e => (hb.2 b hne).trans e) rfl rfl
  done := fun σ s Q E st ok hin hQ => by
    obtain ⟨n, e, rl⟩ := ok.at_ _ hin
    have hl : s.heap.IsList l vs.toArray := ⟨_, e, rfl, n, rfl⟩
    refine wpAny_pyNext_list_end hh st hl (by have := rl.length; simp at this; simp [this]) fun h' he => ?_
    exact hQ _ (fun b o hne e => he b o hne e) rfl rfl
  self := fun i σ s Q E st hQ => wpAny_pyIter_listiter st hQ
  go := fun t i σ s v Q E st hQ => by
    obtain ⟨o, ho, hc, hd⟩ := st
    exact go_iter ho hc hd (by decide) hQ
  ex := fun i h σ st => by obtain ⟨o', ho, _⟩ := st; exact ⟨_, ho⟩
  nf := fun i h σ st o e => by
    obtain ⟨o', ho, hc, hd⟩ := st
    rw [ho] at e; cases e
    rintro (⟨_, _, z⟩ | ⟨_, z⟩)
    · rw [hd] at z; cases z
    · rw [hc] at z; exact absurd z (by decide)
theorem itr_store (hh : A.handled = none) {l : Addr} {vs : List Value} {ds : List D} (hin : (l, vs, ds) ∈ σ) : Itr C A (.raw (.ref l)) σ (some (l, vs, ds)) ds := by
  intro s v ok r E Q hQ
  cases r
  obtain ⟨n, e, rl⟩ := ok.at_ _ hin
  have hl : s.heap.IsList l vs.toArray := ⟨_, e, rfl, n, rfl⟩
  refine wpAny_pyIter_list hl ?_
  exact hQ s.heap.objs.size _ _ (fun Zs => wk_store (C := C.withZ Zs) hh (Nat.ne_of_lt (Heap.lt_size e))) (fun Zs h'' kI sq => ⟨_, kI _ (Heap.get?_push_size _ rfl), rfl, rfl⟩) none_at_size (fun b o e => Heap.get?_push_of_some _ e) rfl rfl

/-- ranges -/
noncomputable def rangeItems (a c : Int) (n : Nat) : List D := (List.range n).map fun (i : Nat) => .int (a + (i : Int) * c)
theorem wk_range (hh : A.handled = none) {I : Addr} {a c : Int} {n : Nat} :
    Wk C A I none (rangeItems a c n) (fun i h _ => IsRangeIter h I (a + (i : Nat) * c) ((n : Int) - (i : Nat)) c) where
  frame := fun i h σ h' σ' st kI sq _ _ => kI _ st
  item := fun i σ s Q E d hd st ok _ hQ => by
    have hi : i < n := by
      have := (List.getElem?_eq_some_iff.mp hd).1; simpa [rangeItems] using this
    have hd' : d = .int (a + (i : Int) * c) := by
      simp [rangeItems, hi] at hd; exact hd.symm
    subst hd'
    refine wpAny_pyNext_range_item st (by omega) fun h' hit hb => ?_
    refine hQ _ _ (fun ok' sq => ⟨.int _ _, ?_⟩) (fun b o hne e => (hb.2 b hne).trans e) rfl rfl
    have e1 : a + ((i + 1 : Nat) : Int) * c = a + (i : Int) * c + c := by push_cast; rw [Int.add_mul, Int.one_mul, Int.add_assoc]
    have e2 : (n : Int) - ((i + 1 : Nat) : Int) = (n : Int) - (i : Int) - 1 := by push_cast; omega
    rw [e1, e2]; exact hit
  done := fun σ s Q E st ok _ hQ => by
    rw [show (rangeItems a c n).length = n by simp [rangeItems]] at st
    exact wpAny_pyNext_range_end hh st (by omega) fun h' he => hQ _ (fun b o hne e => he b o hne e) rfl rfl
  self := fun i σ s Q E st hQ => wpAny_pyIter_rangeiter st hQ
  go := fun t i σ s v Q E st hQ => go_iter st rfl rfl (by decide) hQ
  ex := fun i h σ st => ⟨_, st⟩
  nf := fun i h σ st o e => by
    rw [st] at e; cases e
    rintro (⟨_, _, z⟩ | ⟨_, z⟩)
    · cases z
    · exact absurd (show Value.type "range_iterator" = Value.type "range" from z) (by decide)
theorem itr_range (hh : A.handled = none) {a b c : Int} {n : Nat} (hsm : Builtin.Range.small a b c = true) (hn : Builtin.Range.rangeSize a b c = (n : Int)) : Itr C A (.range a b c) σ none (rangeItems a c n) := by
  intro s v ok r E Q hQ
  cases r with
  | range hr hnS =>
    refine wpAny_pyIter_range hr hsm ?_
    refine hQ s.heap.objs.size _ _ (fun Zs => wk_range (C := C.withZ Zs) hh) (fun Zs h'' kI sq => ?_) none_at_size (fun b o e => Heap.get?_push_of_some _ e) rfl rfl
    have := Heap.get?_push_size s.heap (o := { cls := .type "range_iterator", data := .fields #[rawInt a, rawInt (Builtin.Range.rangeSize a b c), rawInt c] }) rfl
    have := kI _ this
    rw [hn] at this
    simpa using this

/-- a text's signs -/
noncomputable def signs (x : Str) : List D := x.cps.toList.map fun c => .str ⟨#[c]⟩
theorem wk_str (hh : A.handled = none) {I : Addr} {x : Str} {t : Tok} (cn : String) (hcn : (cn = "str_ascii_iterator") ∨ (cn = "str_iterator")) :
    Wk C A I none (signs x) (fun i h _ => h.IsStrIter I cn x t i) where
  frame := fun i h σ h' σ' st kI sq _ _ => by obtain ⟨o, ho, r⟩ := st; exact ⟨o, kI o ho, r⟩
  item := fun i σ s Q E d hd st ok _ hQ => by
    obtain ⟨c, hc, rfl⟩ : ∃ c, x.cps[i]? = some c ∧ d = .str ⟨#[c]⟩ := by
      simp only [signs, List.getElem?_map, Option.map_eq_some_iff] at hd
      obtain ⟨c, h1, h2⟩ := hd
      exact ⟨c, by simpa using h1, h2.symm⟩
    rcases hcn with rfl | rfl
    · exact wpAny_pyNext_ascii_item st hc fun h' hit hb => hQ _ _ (fun ok' sq => ⟨.str _ _, hit⟩) (fun b o hne e => (hb.2 b hne).trans e) rfl rfl
    · exact wpAny_pyNext_wide_item st hc fun h' hit hb => hQ _ _ (fun ok' sq => ⟨.str _ _, hit⟩) (fun b o hne e => (hb.2 b hne).trans e) rfl rfl
  done := fun σ s Q E st ok _ hQ => by
    rw [show (signs x).length = x.cps.size by simp [signs]] at st
    rcases hcn with rfl | rfl
    · exact wpAny_pyNext_ascii_end hh st (by simp) fun h' he => hQ _ (fun b o hne e => he b o hne e) rfl rfl
    · exact wpAny_pyNext_wide_end hh st (by simp) fun h' he => hQ _ (fun b o hne e => he b o hne e) rfl rfl
  self := fun i σ s Q E st hQ => by
    rcases hcn with rfl | rfl
    · exact wpAny_pyIter_striter_ascii st hQ
    · exact wpAny_pyIter_striter_wide st hQ
  go := fun t i σ s v Q E st hQ => by
    obtain ⟨o, ho, hc, hd⟩ := st
    rcases hcn with rfl | rfl <;> exact go_iter ho hc hd (by decide) hQ
  ex := fun i h σ st => by obtain ⟨o', ho, _⟩ := st; exact ⟨_, ho⟩
  nf := fun i h σ st o e => by
    obtain ⟨o', ho, hc, hd⟩ := st
    rw [ho] at e; cases e
    rintro (⟨_, _, z⟩ | ⟨_, z⟩)
    · rw [hd] at z; cases z
    · rw [hc] at z; rcases hcn with rfl | rfl <;> exact absurd z (by decide)
theorem itr_str (hh : A.handled = none) {x : Str} : Itr C A (.str x) σ none (signs x) := by
  intro s v ok r E Q hQ
  cases r with
  | str _ t =>
    cases ha : x.cps.all (· < 128)
    · refine wpAny_pyIter_wide ha ?_
      exact hQ s.heap.objs.size _ _ (fun Zs => wk_str (C := C.withZ Zs) hh (t := t) "str_iterator" (.inr rfl)) (fun Zs h'' kI sq => ⟨_, kI _ (Heap.get?_push_size _ rfl), rfl, rfl⟩) none_at_size (fun b o e => Heap.get?_push_of_some _ e) rfl rfl
    · refine wpAny_pyIter_ascii ha ?_
      exact hQ s.heap.objs.size _ _ (fun Zs => wk_str (C := C.withZ Zs) hh (t := t) "str_ascii_iterator" (.inl rfl)) (fun Zs h'' kI sq => ⟨_, kI _ (Heap.get?_push_size _ rfl), rfl, rfl⟩) none_at_size (fun b o e => Heap.get?_push_of_some _ e) rfl rfl
end
end Mine
namespace Mine

/-- one more address that no datum leans on -/
noncomputable def Cx.hid (C : Cx) (a : Addr) : Cx := C.withZ (a :: C.Z)

section
variable {C : Cx} {A : Around} {env : Env} {wr : Bool} {ρ : Rho} {σ : Sto} {E : Value → Shared → Prop} {s : Shared}

theorem hid_free {a b : Addr} : (C.hid a).Free b ↔ C.Free b ∧ b ≠ a := by
  simp only [Cx.Free, Cx.hid, Cx.withZ, List.mem_cons, not_or]
  constructor
  · rintro ⟨h1, h2, h3, h4⟩; exact ⟨⟨h1, h2, h4⟩, h3⟩
  · rintro ⟨⟨h1, h2, h4⟩, h3⟩; exact ⟨h1, h2, h3, h4⟩
theorem hid_v {a b : Addr} : b ∈ (C.hid a).V σ ↔ b = a ∨ b ∈ C.V σ := by
  simp only [Cx.V, Cx.hid, Cx.withZ, List.mem_append, List.mem_cons]
  constructor
  · rintro (h | h | h)
    · exact .inr (.inl h)
    · exact .inl h
    · exact .inr (.inr h)
  · rintro (h | h | h)
    · exact .inr (.inl h)
    · exact .inl h
    · exact .inr (.inr h)
theorem hid_seqs {a : Addr} {h h' : Heap} (k : ∀ b o, h.get? b = some o → h'.get? b = some o) (ha : h.get? a = none) : Seqs h (C.V σ) h' ((C.hid a).V σ) := fun b o e n _ =>
  ⟨k b o e, fun hm => (hid_v.mp hm).elim (fun z => by rw [z, ha] at e; cases e) n⟩
theorem unhid_seqs {a : Addr} {h : Heap} : Seqs h ((C.hid a).V σ) h (C.V σ) := fun b o e n _ => ⟨e, fun hm => n (hid_v.mpr (.inr hm))⟩
theorem Ok.hid {a : Addr} {h h' : Heap} (o : Ok C σ h) (k : ∀ b o, h.get? b = some o → h'.get? b = some o) (ha : h.get? a = none) (ha' : ∃ x, h'.get? a = some x) : Ok (C.hid a) σ h' :=
  ⟨fun b x e => k b x (o.base b x e), fun p hp => k _ _ (o.pin p hp), fun p hp => hid_free.mpr ⟨o.off p hp, fun z => by
      obtain ⟨n, e, _⟩ := o.at_ p hp; rw [z, ha] at e; cases e⟩, fun p hp => by
      obtain ⟨n, e, r⟩ := o.at_ p hp; exact ⟨n, k _ _ e, r.mono (hid_seqs k ha)⟩, o.nd, fun b hb => by
      rcases List.mem_cons.mp hb with rfl | hb
      · exact ha'
      · exact (o.zs b hb).imp fun x e => k _ _ e⟩
theorem Ok.unhid {a : Addr} {h : Heap} (o : Ok (C.hid a) σ h) : Ok C σ h :=
  ⟨o.base, o.pin, fun p hp => (hid_free.mp (o.off p hp)).1, fun p hp => by obtain ⟨n, e, r⟩ := o.at_ p hp; exact ⟨n, e, r.mono unhid_seqs⟩, o.nd, fun b hb => o.zs b (List.mem_cons_of_mem _ hb)⟩

noncomputable def Ifs (C : Cx) (A : Around) (env : Env) (ρ : Rho) (σ : Sto) : List Expr → (Bool → Sto → Prop) → Prop
  | [], P => P true σ
  | [c], P => Bv C A env false ρ σ c P
  | _, _ => False

noncomputable def Comp (C : Cx) (A : Around) (env : Env) (t : Expr) (ifs : List Expr) (elt : Expr) (P : List D → Sto → Prop) (src : Src) : List D → List D → Rho → Sto → Prop
  | [], acc, _, σ => P acc σ
  | d :: ds, acc, ρ, σ => Asg C A env false ρ σ t d fun ρ₁ σ₁ => Ifs C A env ρ₁ σ₁ ifs fun b σ₂ =>
    if b then Ev C A env false ρ₁ σ₂ elt fun e σ₃ => InSt src σ₃ ∧ Comp C A env t ifs elt P src ds (acc ++ [e]) ρ₁ σ₃
    else InSt src σ₂ ∧ Comp C A env t ifs elt P src ds acc ρ₁ σ₂

theorem compLoop2 {prog : Program} {w : World} {R : Result → Shared → Prop} {elt target iter : Expr} {ifs : List Expr} {scope : Scope} {pos : Pos} {it acc : Value} (I : Nat → Shared → Prop)
    (turn : ∀ n s, I n s → wpAny (model prog w) A (pyNext it) (fun r s₁ => match r with
      | none => R (.ok .next) s₁
      | some v => wpAny (model prog w) A (letOwnedTupleGo target it v) (fun _ s₀ => wpAny (model prog w) A (assign target env v) (fun _ s₂ =>
          wpAny (model prog w) A (forIn ifs true fun c r => if r = true then do let ok ← isTrue c env (eval c env); pure (ForInStep.yield ok) else pure (ForInStep.yield r)) (fun ok s₃ =>
            if ok = true then wpAny (model prog w) A (eval elt env) (fun x s₄ =>
              wpAny (model prog w) A (call (.builtin "list.append") [acc, x]) (fun _ s₅ => ∃ m, m < n ∧ I m s₅) (notedBy (model prog w) A env fun e s' => R (.error e) s') s₄) (notedBy (model prog w) A env fun e s' => R (.error e) s') s₃
            else ∃ m, m < n ∧ I m s₃) (notedBy (model prog w) A env fun e s' => R (.error e) s') s₂) (notedBy (model prog w) A env fun e s' => R (.error e) s') s₀) (notedBy (model prog w) A env fun e s' => R (.error e) s') s₁) (notedBy (model prog w) A env fun e s' => R (.error e) s') s)
    (n : Nat) (h : I n s) : codeAny (model prog w) A (.compLoop (.ListComp elt [⟨target, iter, ifs, 0⟩] scope pos) 0 it acc env) R s := by
  refine codeAny_loop rfl I (fun n s hI => ?_) n h
  show wpAny _ A ((compTurn (.ListComp elt [⟨target, iter, ifs, 0⟩] scope pos) 0 it acc env).onRaise (fun x => do noteFrame x env; theTreesLotGoes x)) _ _ s
  refine wpAny_noted ?_
  rw [compTurn_list]
  refine wpAny_bind (wpAny_standAt (wpAny_bind (wpAny_mono (turn n s hI) (fun r s₁ h₁ => ?_) fun _ _ h' => h')))
  cases r with
  | none => exact wpAny_pure h₁
  | some v =>
    refine wpAny_bind (wpAny_mono h₁ (fun _ s₀ h₀ => ?_) fun _ _ h' => h')
    refine wpAny_bind (wpAny_mono h₀ (fun _ s₂ h₂ => wpAny_bind (wpAny_mono h₂ (fun ok s₃ h₃ => ?_) fun _ _ h' => h')) fun _ _ h' => h')
    cases ok with
    | false => exact wpAny_pure ⟨rfl, h₃⟩
    | true =>
      exact wpAny_bind (wpAny_bind (wpAny_mono h₃ (fun x s₄ h₄ => wpAny_bind (wpAny_mono h₄ (fun _ s₅ h₅ => wpAny_pure (wpAny_pure ⟨rfl, h₅⟩)) fun _ _ h' => h')) fun _ _ h' => h'))

theorem wp_ifs {ifs : List Expr} {P : Bool → Sto → Prop} (h : Ifs C A env ρ σ ifs P) (o : Ok C σ s.heap) (f : Fm C σ s.heap env false ρ) :
    wpAny C.M A (forIn ifs true fun c r => if r = true then do let ok ← isTrue c env (eval c env); pure (ForInStep.yield ok) else pure (ForInStep.yield r)) (fun b s' => ∃ σ', P b σ' ∧ Nx C σ s σ' s') E s := by
  match ifs, h with
  | [], h => exact wpAny_tests_nil ⟨σ, h, .refl o⟩
  | [c], h => exact wpAny_tests_one (Bv.run h s o f E)
  | _ :: _ :: _, h => exact h.elim

theorem lookup_map {α β : Type} {g : Str → α → β} {x : Str} : ∀ {l : List (Str × α)}, (l.map fun p => (p.1, g p.1 p.2)).lookup x = (l.lookup x).map (g x)
  | [] => rfl
  | (y, a) :: r => by
    simp only [List.map_cons, List.lookup]
    split
    · rename_i h; have := eq_of_beq h; subst this; rfl
    · exact lookup_map
noncomputable def relK (env : Env) (x : Str) (k : NameKind) : NameKind := if (k == .free && env.scope.kind == .function && env.kindOf x == some .cell) then .cell else k
theorem relabel_lookup {scope : Scope} {x : Str} : (relabel scope env).names.lookup x = (scope.names.lookup x).map (relK env x) := by
  have : (relabel scope env).names = scope.names.map fun p => (p.1, relK env p.1 p.2) := by
    simp only [relabel, relK]
    congr 1
    funext p
    obtain ⟨n, k⟩ := p
    dsimp only
    split <;> rfl
  rw [this]
  exact lookup_map
theorem upd_z {Dd : Addr} {h h' : Heap} (o : Ok C σ h) (hD : Dd ∈ C.Z) (fr : C.h₀.get? Dd = none) (fp : ∀ p ∈ C.pins, p.1 ≠ Dd) (hb : Heap.SameBut Dd h h') (hx : ∃ x, h'.get? Dd = some x) : Ok C σ h' ∧ Seqs h (C.V σ) h' (C.V σ) := by
  have sq : Seqs h (C.V σ) h' (C.V σ) := fun b x e n q => by
    have hne : b ≠ Dd := fun z => n (by subst z; simp [Cx.V, hD])
    exact ⟨(hb.2 b hne).trans e, n⟩
  refine ⟨⟨fun b x e => ?_, fun p hp => (hb.2 _ (fp p hp)).trans (o.pin p hp), o.off, fun p hp => ?_, o.nd, fun b hz => ?_⟩, sq⟩
  · have hne : b ≠ Dd := fun z => by subst z; rw [fr] at e; cases e
    exact (hb.2 b hne).trans (o.base b x e)
  · obtain ⟨n, e, r⟩ := o.at_ p hp
    have hne : p.1 ≠ Dd := fun z => (o.off p hp).2.2 (z ▸ hD)
    exact ⟨n, (hb.2 _ hne).trans e, r.mono sq⟩
  · by_cases hz' : b = Dd
    · subst hz'; exact hx
    · exact (o.zs b hz).imp fun x e => (hb.2 b hz').trans e

/-- the heart of a comprehension: the loop over the iterator I, the list at Dd -/
theorem comp_loop {target iter elt : Expr} {ifs : List Expr} {scope : Scope} {pos : Pos} {cenv : Env} {Dd I : Addr} {src : Src} {items : List D} {St : Nat → Heap → Sto → Prop} {P : List D → Sto → Prop} {ρc : Rho} {R : Result → Shared → Prop}
    (hsz : items.length ≤ sizeLine) (W : Wk C A I src items St) (o : Ok C σ s.heap) (f : Fm C σ s.heap cenv false ρc) (st : St 0 s.heap σ) (hin : InSt src σ) (hDI : Dd ≠ I) (frI : C.Free I) (hI : I ∉ σ.S) (hoI : ¬ Own cenv I)
    (hD : Dd ∈ C.Z) (fr : C.h₀.get? Dd = none) (fp : ∀ p ∈ C.pins, p.1 ≠ Dd) (hDL : ¬ Own cenv Dd) (hacc : s.heap.PlainList Dd #[])
    (h : Comp C A cenv target ifs elt P src items [] ρc σ)
    (hR : ∀ s' σ' acc ys ρ', P acc σ' → Ok C σ' s'.heap → Fm C σ' s'.heap cenv false ρ' → s'.heap.PlainList Dd ys → RepL s'.heap (C.V σ') ys.toList acc →
      (∀ a x, s.heap.get? a = some x → a ∉ σ.S → a ≠ cenv.locals → a ≠ Dd → a ≠ I → s'.heap.get? a = some x ∧ a ∉ σ'.S) → s'.gens = s.gens → s'.os = s.os → R (.ok .next) s') :
    codeAny C.M A (.compLoop (.ListComp elt [⟨target, iter, ifs, 0⟩] scope pos) 0 (.ref I) (.ref Dd) cenv) R s := by
  refine compLoop2 (fun n s' => ∃ k ρ' σ' acc ys, n = items.length - k ∧ k ≤ items.length ∧ St k s'.heap σ' ∧ InSt src σ' ∧ Comp C A cenv target ifs elt P src (items.drop k) acc ρ' σ' ∧
    Ok C σ' s'.heap ∧ Fm C σ' s'.heap cenv false ρ' ∧ I ∉ σ'.S ∧ s'.heap.PlainList Dd ys ∧ RepL s'.heap (C.V σ') ys.toList acc ∧ ys.size ≤ k ∧
    (∀ a x, s.heap.get? a = some x → a ∉ σ.S → a ≠ cenv.locals → a ≠ Dd → a ≠ I → s'.heap.get? a = some x ∧ a ∉ σ'.S) ∧ s'.gens = s.gens ∧ s'.os = s.os)
    ?_ (items.length - 0) ⟨0, ρc, σ, [], #[], rfl, Nat.zero_le _, st, hin, h, o, f, hI, hacc, .nil, Nat.zero_le _, fun a x e n _ _ _ => ⟨e, n⟩, rfl, rfl⟩
  rintro n s₃ ⟨k, ρ₃, σ₃, acc, ys, rfl, hk, st₃, in₃, t₃, o₃, f₃, hS₃, pl₃, ra₃, hys, kp₃, g₃, os₃⟩
  have stepI : ∀ s₄ : Shared, (∀ b o, b ≠ I → s₃.heap.get? b = some o → s₄.heap.get? b = some o) → Ok C σ₃ s₄.heap ∧ Seqs s₃.heap (C.V σ₃) s₄.heap (C.V σ₃) ∧ Fm C σ₃ s₄.heap cenv false ρ₃ := fun s₄ hb => by
    obtain ⟨a, b⟩ := upd_keep o₃ frI hS₃ hb (W.nf _ _ _ st₃)
    exact ⟨a, b, f₃.but hb hoI b⟩
  have hDS : ∀ {σ' : Sto} {h' : Heap}, Ok C σ' h' → Dd ∉ σ'.S := fun o' hm => by
    obtain ⟨p, hp, e⟩ := List.mem_map.mp hm
    exact (o'.off p hp).2.2 (e ▸ hD)
  by_cases hlt : k < items.length
  · have hd : items[k]? = some items[k] := by simp [hlt]
    rw [List.drop_eq_getElem_cons hlt] at t₃
    refine W.item k σ₃ s₃ _ _ _ hd st₃ o₃ in₃ fun v s₄ hv hb hg₄ hos₄ => ?_
    obtain ⟨o₄, sq₄, f₄⟩ := stepI s₄ hb
    obtain ⟨rv, st₄⟩ := hv o₄ sq₄
    refine W.go _ _ _ s₄ v _ _ st₄ ?_
    refine wpAny_mono (Asg.run t₃ s₄ v o₄ f₄ rv _) ?_ fun _ _ x => x
    rintro _ s₅ ⟨ρ₅, σ₅, ifs5, nz₅, f₅⟩
    refine wpAny_mono (wp_ifs ifs5 nz₅.ok f₅) ?_ fun _ _ x => x
    rintro b s₆ ⟨σ₆, p₆, n₆⟩
    obtain ⟨oI, eI⟩ := W.ex _ _ _ st₄
    obtain ⟨nD, eD₃⟩ := pl₃
    have eD₄ := hb _ _ hDI eD₃
    have l₅ := nz₅.le
    have eD₅ := (l₅ _ _ eD₄ (hDS o₄) fun w => hDL w.own).1
    have eI₅ := l₅ _ _ eI hS₃ fun w => hoI w.own
    have eD₆ := (n₆.le _ _ eD₅ (hDS nz₅.ok)).1
    have eI₆ := n₆.le _ _ eI₅.1 eI₅.2
    have sq₆ := (nz₅.seqs f₄).trans n₆.le.v
    have kp₆ : ∀ a x, s.heap.get? a = some x → a ∉ σ.S → a ≠ cenv.locals → a ≠ Dd → a ≠ I → s₆.heap.get? a = some x ∧ a ∉ σ₆.S := fun a x e n n1 n2 n3 => by
      have q3 := kp₃ a x e n n1 n2 n3
      have q4 := hb _ _ n3 q3.1
      have q5 := l₅ _ _ q4 q3.2 (fun w => w.elim n1 fun z => by cases z.1)
      exact n₆.le _ _ q5.1 q5.2
    cases b with
    | false =>
      simp only [Bool.false_eq_true, if_false] at p₆ ⊢
      exact ⟨items.length - (k + 1), by omega, k + 1, ρ₅, σ₆, acc, ys, rfl, hlt, W.frame _ _ _ _ _ st₄ (fun o e => by rw [eI] at e; cases e; exact eI₆.1) sq₆ n₆.ok p₆.1, p₆.1, p₆.2, n₆.ok, f₅.next n₆, eI₆.2, ⟨nD, eD₆⟩,
        ra₃.mono (sq₄.trans sq₆), Nat.le_succ_of_le hys, kp₆, (n₆.gens.trans nz₅.gens).trans (hg₄.trans g₃), (n₆.os.trans nz₅.os).trans (hos₄.trans os₃)⟩
    | true =>
      simp only [if_true] at p₆ ⊢
      refine wpAny_mono (p₆.run s₆ n₆.ok (f₅.next n₆) _) ?_ fun _ _ x => x
      rintro x s₇ ⟨e₇, σ₇, ⟨in₇, c₇⟩, r₇, n₇⟩
      have eD₇ := (n₇.le _ _ eD₆ (hDS n₆.ok)).1
      have eI₇ := n₇.le _ _ eI₆.1 eI₆.2
      refine wpAny_list_append_plain (items := ys) ⟨nD, eD₇⟩ (fun h₈ pl₈ hb₈ => ?_) (by omega)
      obtain ⟨o₈, sq₈⟩ := upd_z n₇.ok hD fr fp hb₈ (by obtain ⟨n, e⟩ := pl₈; exact ⟨_, e⟩)
      have sq₇ := sq₆.trans n₇.le.v
      have hb₈' : ∀ b o, b ≠ Dd → s₇.heap.get? b = some o → h₈.get? b = some o := fun b o hne e => (hb₈.2 b hne).trans e
      refine ⟨items.length - (k + 1), by omega, k + 1, ρ₅, σ₇, acc ++ [e₇], ys.push x, rfl, hlt, W.frame _ _ _ _ _ st₄ (fun o e => by rw [eI] at e; cases e; exact hb₈' _ _ (Ne.symm hDI) eI₇.1) (sq₇.trans sq₈) o₈ in₇, in₇, c₇, o₈,
        ((f₅.next n₆).next n₇).but hb₈' hDL sq₈, eI₇.2, pl₈, ?_, by rw [Array.size_push]; omega, fun a x e n n1 n2 n3 => ?_, ((n₇.gens.trans n₆.gens).trans nz₅.gens).trans (hg₄.trans g₃), ((n₇.os.trans n₆.os).trans nz₅.os).trans (hos₄.trans os₃)⟩
      · rw [Array.toList_push]
        exact (ra₃.mono ((sq₄.trans sq₇).trans sq₈)).append (.cons (r₇.mono sq₈) .nil)
      · have q6 := kp₆ a x e n n1 n2 n3
        have q7 := n₇.le _ _ q6.1 q6.2
        exact ⟨hb₈' _ _ n2 q7.1, q7.2⟩
  · have hk' : k = items.length := by omega
    subst hk'
    rw [List.drop_length] at t₃
    refine W.done σ₃ s₃ _ _ st₃ o₃ in₃ fun s₄ hb hg₄ hos₄ => ?_
    obtain ⟨o₄, sq₄, f₄⟩ := stepI s₄ hb
    refine hR s₄ σ₃ acc ys ρ₃ t₃ o₄ f₄ ?_ (ra₃.mono sq₄) (fun a x e n n1 n2 n3 => ?_) (hg₄.trans g₃) (hos₄.trans os₃)
    · obtain ⟨n, e⟩ := pl₃; exact ⟨n, hb _ _ hDI e⟩
    · have := kp₃ a x e n n1 n2 n3; exact ⟨hb _ _ n3 this.1, this.2⟩
end
end Mine
namespace Mine

noncomputable def closFrom (env : Env) : List (Str × NameKind) → List (Str × Addr) → List (Str × Addr)
  | [], cs => cs
  | (n, k) :: r, cs => closFrom env r (if k == .free then (n, (env.cells.lookup n).getD 0) :: cs else cs)
noncomputable def frees (env : Env) (scope : Scope) : Bool := scope.names.all fun p => p.2 != .free || (env.cells.lookup p.1).isSome
theorem closureFor_eq {scope : Scope} {env : Env} (h : frees env scope = true) : closureFor scope env = pure (closFrom env scope.names []) := by
  have key : ∀ (l : List (Str × NameKind)) (cs : List (Str × Addr)), (l.all fun p => p.2 != .free || (env.cells.lookup p.1).isSome) = true →
      (forIn l cs fun (x : Str × NameKind) r => match x with | (name, kind) => if kind == .free then do let c ← cellOf env name; pure (ForInStep.yield ((name, c) :: r)) else pure (ForInStep.yield r) : Sem (List (Str × Addr))) = pure (closFrom env l cs) := by
    intro l
    induction l with
    | nil => intro cs _; rfl
    | cons p r ih =>
      obtain ⟨n, k⟩ := p
      intro cs hall
      simp only [List.all_cons, Bool.and_eq_true] at hall
      rw [List.forIn_cons, closFrom]
      by_cases hk : (k == .free) = true
      · have hl : ∃ c, env.cells.lookup n = some c := by
          have := hall.1
          simp only [bne, hk, Bool.not_true, Bool.false_or] at this
          exact Option.isSome_iff_exists.mp this
        obtain ⟨c, hc⟩ := hl
        simp only [hk, if_true, hc, Option.getD_some]
        have : cellOf env n = pure c := by unfold cellOf; rw [hc]
        rw [this]
        exact ih _ hall.2
      · simp only [hk]
        exact ih _ hall.2
  simp only [closureFor]
  rw [show (forIn scope.names [] _ : Sem (List (Str × Addr))) = _ from key scope.names [] h]
  rfl

theorem closFrom_lookup {env : Env} {x : Str} {c : Addr} : ∀ (l : List (Str × NameKind)) (cs : List (Str × Addr)), (l.all fun p => p.2 != .free || (env.cells.lookup p.1).isSome) = true →
    (∀ y c, cs.lookup y = some c → env.cells.lookup y = some c) → (closFrom env l cs).lookup x = some c → env.cells.lookup x = some c
  | [], cs, _, h, e => h x c e
  | (n, k) :: r, cs, ha, h, e => by
    simp only [List.all_cons, Bool.and_eq_true] at ha
    refine closFrom_lookup r _ ha.2 ?_ e
    intro y c' e'
    split at e'
    · rename_i hk
      simp only [bne, hk, Bool.not_true, Bool.false_or] at ha
      obtain ⟨c₀, h₀⟩ := Option.isSome_iff_exists.mp ha.1
      simp only [List.lookup] at e'
      split at e'
      · rename_i hy; have := eq_of_beq hy; subst this
        rw [h₀] at e' ⊢; simpa using e'
      · exact h y c' e'
    · exact h y c' e'
theorem closFrom_acc {env : Env} {x : Str} : ∀ (l : List (Str × NameKind)) (cs : List (Str × Addr)), (cs.lookup x).isSome = true → ((closFrom env l cs).lookup x).isSome = true
  | [], _, h => h
  | (n, k) :: r, cs, h => by
    refine closFrom_acc r _ ?_
    split
    · simp only [List.lookup]; split <;> simp_all
    · exact h
theorem closFrom_some {env : Env} {x : Str} : ∀ (l : List (Str × NameKind)) (cs : List (Str × Addr)), (x, NameKind.free) ∈ l → ((closFrom env l cs).lookup x).isSome = true
  | (n, k) :: r, cs, h => by
    rcases List.mem_cons.mp h with e | h
    · cases e
      refine closFrom_acc r _ ?_
      rw [if_pos (by decide)]
      simp [List.lookup]
    · exact closFrom_some r _ h

/-- the names that a comprehension's block sees of the frame around it -/
noncomputable def seen (scope : Scope) (env : Env) (ρ : Rho) : Rho := ρ.filter fun p => scope.names.lookup p.1 == some .free && env.kindOf p.1 == some .cell
theorem seen_lookup {scope : Scope} {env : Env} {x : Str} {d : D} : ∀ {ρ : Rho}, (seen scope env ρ).lookup x = some d → ρ.lookup x = some d ∧ scope.names.lookup x = some .free ∧ env.kindOf x = some .cell
  | [], e => by simp [seen, List.lookup] at e
  | (y, f) :: r, e => by
    unfold seen at e
    rw [List.filter_cons] at e
    split at e
    · rename_i hk
      simp only [List.lookup] at e ⊢
      split at e
      · rename_i hy
        have := eq_of_beq hy; subst this
        simp only [Bool.and_eq_true, beq_iff_eq] at hk
        exact ⟨e, hk⟩
      · rename_i hy
        exact seen_lookup e
    · rename_i hk
      have q := seen_lookup (ρ := r) e
      refine ⟨?_, q.2⟩
      simp only [List.lookup]
      split
      · rename_i hy
        have := eq_of_beq hy; subst this
        exact absurd (by simp [q.2.1, q.2.2]) hk
      · exact q.1

section
variable {C : Cx} {A : Around} {env : Env} {wr : Bool} {ρ : Rho} {σ : Sto} {E : Value → Shared → Prop} {s : Shared}

noncomputable def cscope (scope : Scope) : Bool := scope.kind == .function && (scope.names.all fun p => p.2 != .cell && (p.2 != .local || scope.names.lookup p.1 == some .local))

noncomputable abbrev cenvOf (scope : Scope) (Lc : Addr) (env : Env) : Env := compEnvC scope (closFrom env scope.names []) Lc env

theorem comp_core {target iter elt : Expr} {ifs : List Expr} {scope : Scope} {pos : Pos} {I : Addr} {src : Src} {items : List D} {St : List Addr → Nat → Heap → Sto → Prop} {P : List D → Sto → Prop} {RR : Value → Addr → Result → Shared → Prop} {s₁ s₂ : Shared}
    (hsz : items.length ≤ sizeLine) (hsc : cscope scope = true) (hfr : frees env scope = true)
    (o₁ : Ok C σ s₁.heap) (f₁ : Fm C σ s₁.heap env wr ρ) (W : ∀ Zs, Wk (C.withZ Zs) A I src items (St Zs))
    (st : ∀ Zs h'', (∀ o, s₂.heap.get? I = some o → h''.get? I = some o) → Seqs s₁.heap (C.V σ) h'' ((C.withZ Zs).V σ) → St Zs 0 h'' σ)
    (hI : s₁.heap.get? I = none) (k₁₂ : ∀ a o, s₁.heap.get? a = some o → s₂.heap.get? a = some o) (hin : InSt src σ)
    (h : ∀ Dd Lc, Comp (C.hid Dd) A (cenvOf scope Lc env) target ifs elt P src items [] (seen scope env ρ) σ)
    (hRR : ∀ Dd Lc s' σ' ds m, P ds σ' → s₁.heap.get? Dd = none → s₁.heap.get? Lc = none → Dd ≠ Lc → I ≠ Lc → s'.heap.Ns Lc m → Ok C σ' s'.heap → Rep s'.heap (C.V σ') (.ref Dd) (.list ds) → Lc ∉ σ'.S → C.Free Lc →
      (∀ a x, s₁.heap.get? a = some x → a ∉ σ.S → s'.heap.get? a = some x ∧ a ∉ σ'.S) → s'.gens = s₂.gens → s'.os = s₂.os → RR (.ref Dd) Lc (.ok .next) s') :
    wpAny C.M A (newList []) (fun acc s₃ => wpAny C.M A (newFunctionEnv scope env.globals (closFrom env scope.names []) [] env.qual none .none (some env)) (fun cenv s₄ =>
      codeAny C.M A (.compStart (.ListComp elt [⟨target, iter, ifs, 0⟩] scope pos) 0 (.ref I) acc { cenv with scope := relabel scope env }) (RR acc cenv.locals) s₄) E s₃) E s₂ := by
  simp only [cscope, Bool.and_eq_true, beq_iff_eq, List.all_eq_true] at hsc
  obtain ⟨hkind, hsc⟩ := hsc
  have hcell : ∀ y ∈ scope.names, y.2 ≠ .cell := fun y hy z => by have := (hsc y hy).1; rw [z] at this; exact absurd this (by decide)
  have o₂ : Ok C σ s₂.heap := o₁.keeps k₁₂
  have f₂ : Fm C σ s₂.heap env wr ρ := f₁.le fun a o e n => ⟨k₁₂ a o e, n⟩
  have hclL : ∀ x c, (closFrom env scope.names []).lookup x = some c → env.cells.lookup x = some c := fun x c e => closFrom_lookup scope.names [] hfr (fun _ _ q => by simp [List.lookup] at q) e
  refine wpAny_newList (wpAny_newFunctionEnv hcell (by intro y hy; simp at hy) (fun h₁ hns₁ hsb₁ => ?_) hkind)
  dsimp only at hns₁ hsb₁ ⊢
  generalize hH2 : s₂.heap.push { cls := .type "list", dict := none, data := .seq ([] : List Value).toArray } = H2 at hns₁ hsb₁ ⊢
  have hC : H2.objs.size = s₂.heap.objs.size + 1 := by rw [← hH2, Heap.size_push]
  have hDC : s₂.heap.objs.size ≠ H2.objs.size := by rw [hC]; exact Nat.ne_of_lt (Nat.lt_succ_self _)
  have below : ∀ b, b < s₂.heap.objs.size → b ≠ H2.objs.size ∧ b ≠ s₂.heap.objs.size := fun b hb => ⟨by rw [hC]; exact Nat.ne_of_lt (Nat.lt_succ_of_lt hb), Nat.ne_of_lt hb⟩
  have old : ∀ b o, s₂.heap.get? b = some o → h₁.get? b = some o := fun b o e => hsb₁.extBut b o (below b (Heap.lt_size e)).1 (Heap.get?_push_of_some _ (hH2 ▸ Heap.get?_push_of_some _ e))
  have eacc : h₁.get? s₂.heap.objs.size = some { cls := .type "list", dict := none, data := .seq ([] : List Value).toArray } := hsb₁.extBut _ _ hDC (Heap.get?_push_of_some _ (hH2 ▸ Heap.get?_push_size _ rfl))
  have fresh₂ : ∀ a, s₂.heap.objs.size ≤ a → s₂.heap.get? a = none := fun a ha => by
    cases e : s₂.heap.get? a with
    | none => rfl
    | some o' => exact absurd (Heap.lt_size e) (Nat.not_lt.mpr ha)
  have fresh₁ : ∀ a, s₂.heap.get? a = none → s₁.heap.get? a = none := fun a ha => by
    cases e : s₁.heap.get? a with
    | none => rfl
    | some o' => rw [k₁₂ _ _ e] at ha; cases ha
  have eD := fresh₂ _ (Nat.le_refl _)
  have eL := fresh₂ H2.objs.size (by rw [hC]; exact Nat.le_succ _)
  have WI := W ((s₂.heap.objs.size) :: C.Z)
  have sqh : Seqs s₁.heap (C.V σ) h₁ ((C.hid s₂.heap.objs.size).V σ) := hid_seqs (fun b o e => old b o (k₁₂ b o e)) (fresh₁ _ eD)
  have st₁ := st (s₂.heap.objs.size :: C.Z) h₁ (fun o e => old _ _ e) sqh
  obtain ⟨oI, eI₁⟩ := WI.ex _ _ _ (st (s₂.heap.objs.size :: C.Z) h₁ (fun o e => old _ _ e) sqh)
  have o₁h : Ok (C.hid s₂.heap.objs.size) σ h₁ := o₂.hid old eD ⟨_, eacc⟩
  obtain ⟨frI, hIS⟩ := free_of_none o₁ hI
  have hoI := not_own_of_none f₁ hI
  have hoD := not_own_of_none f₂ eD
  have hoL := not_own_of_none f₂ eL
  obtain ⟨frL, hLS⟩ := free_of_none o₂ eL
  obtain ⟨frD, hDS⟩ := free_of_none o₂ eD
  have ownc : ∀ a, a ≠ H2.objs.size → ¬ Own env a → ¬ Own (cenvOf scope H2.objs.size env) a := fun a n no => by
    rintro (z | ⟨x, hx⟩)
    · exact n z
    · exact no (.inr ⟨x, hclL x a hx⟩)
  by_cases hIex : ∃ o, s₂.heap.get? I = some o
  case neg =>
    -- the iterator lies in the heap where it was made
    exfalso
    have e2 : s₂.heap.get? I = none := by cases q : s₂.heap.get? I with | none => rfl | some o => exact absurd ⟨o, q⟩ hIex
    have st2 := st C.Z s₁.heap (fun o e => by rw [e2] at e; cases e) (fun b o e n _ => ⟨e, n⟩)
    obtain ⟨o, e⟩ := (W C.Z).ex _ _ _ st2
    rw [hI] at e; cases e
  obtain ⟨oI₂, eI₂⟩ := hIex
  have hIL : I ≠ H2.objs.size := (below I (Heap.lt_size eI₂)).1
  have hID : I ≠ s₂.heap.objs.size := (below I (Heap.lt_size eI₂)).2
  have fc : Fm (C.hid s₂.heap.objs.size) σ h₁ (cenvOf scope H2.objs.size env) false (seen scope env ρ) := by
    refine ⟨⟨_, hns₁, fun x d e => ?_⟩, hkind, f₁.glob, f₁.blt, ⟨hid_free.mpr ⟨frL, Ne.symm hDC⟩, hLS⟩, fun x c e => ?_, fun x y c e e' => f₁.apart x y c (hclL x c e) (hclL y c e')⟩
    · obtain ⟨hr, hf, hk⟩ := seen_lookup e
      obtain ⟨ml, _, hh⟩ := f₁.has
      obtain ⟨v, rv, ⟨k, _⟩ | ⟨_, c, hl, oc, ec, dc⟩⟩ := hh x d hr
      · rw [hk] at k; cases k
      · refine ⟨v, rv.mono sqh, .inr ⟨.inl ?_, c, ?_, oc, old _ _ (k₁₂ _ _ ec), dc⟩⟩
        · show (relabel scope env).names.lookup x = some .cell
          rw [relabel_lookup, hf]
          simp [relK, f₁.kind, hk]
        · have hm := mem_lookup hf
          obtain ⟨c', hc'⟩ := Option.isSome_iff_exists.mp (closFrom_some (env := env) scope.names [] hm)
          have := hclL x c' hc'
          rw [hl] at this; cases this; exact hc'
    · obtain ⟨⟨v, oc, ec, dc⟩, _, n2, _⟩ := f₂.cells x c (hclL x c e)
      refine ⟨⟨v, oc, old _ _ ec, dc⟩, ?_, n2, ?_⟩
      · intro z
        have : c = H2.objs.size := z
        rw [this, eL] at ec; cases ec
      · intro z; cases z
  have loop : ∀ s₃ : Shared, s₃ = { s₂ with heap := h₁, toks := s₂.toks + ([] : List (Str × Value)).length } →
      codeAny C.M A (.compLoop (.ListComp elt [⟨target, iter, ifs, 0⟩] scope pos) 0 (.ref I) (.ref s₂.heap.objs.size) (cenvOf scope H2.objs.size env)) (RR (.ref s₂.heap.objs.size) H2.objs.size) s₃ := by
    rintro s₃ rfl
    refine comp_loop (C := C.hid s₂.heap.objs.size) (s := { s₂ with heap := h₁, toks := s₂.toks + ([] : List (Str × Value)).length }) (cenv := cenvOf scope H2.objs.size env) (Dd := s₂.heap.objs.size) hsz WI o₁h fc st₁ hin (Ne.symm hID) (hid_free.mpr ⟨frI, hID⟩) hIS (ownc I hIL hoI)
      (List.mem_cons_self ..) frD.1 frD.2.1 (ownc _ hDC hoD) ⟨_, eacc⟩ (h _ _) ?_
    intro s' σ' acc ys ρ' p o' f' pl ra kp g os
    obtain ⟨n, ey⟩ := pl
    obtain ⟨ml, hn', _⟩ := f'.has
    have hDS' : s₂.heap.objs.size ∉ C.V σ' := by
      simp only [Cx.V, List.mem_append, not_or]
      refine ⟨fun hm => ?_, frD.2.2⟩
      obtain ⟨p, hp, e⟩ := List.mem_map.mp hm
      exact (hid_free.mp (o'.off p hp)).2 e
    refine hRR _ _ s' σ' acc ml p (fresh₁ _ eD) (fresh₁ _ eL) hDC hIL hn' o'.unhid (.list ⟨_, ey, rfl, n, by simp⟩ hDS' (ra.mono unhid_seqs)) f'.offL.2 frL (fun a x e nS => ?_) g os
    exact kp a x (old _ _ (k₁₂ _ _ e)) nS (fun z => by have : a = H2.objs.size := z; rw [this, fresh₁ _ eL] at e; cases e) (fun z => by rw [z, fresh₁ _ eD] at e; cases e) fun z => by rw [z, hI] at e; cases e
  exact codeAny_compStart_list (loop _ rfl) ((W (s₂.heap.objs.size :: C.Z)).self 0 σ _ _ _ st₁ (loop _ rfl))

theorem ev_listcomp {target iter elt : Expr} {ifs : List Expr} {scope : Scope} {pos : Pos} {P : D → Sto → Prop}
    (h : Ev C A env wr ρ σ iter fun d σ₁ => ∃ src items, Itr C A d σ₁ src items ∧ InSt src σ₁ ∧ items.length ≤ sizeLine ∧
      ∀ Dd Lc, Comp (C.hid Dd) A (cenvOf scope Lc env) target ifs elt (fun ds σ' => P (.list ds) σ') src items [] (seen scope env ρ) σ₁)
    (hsc : cscope scope = true := by rfl) (hfr : frees env scope = true := by rfl) (hs : ∀ x, foldedSetIterable iter env x = pure x := by intro _; rfl) :
    Ev C A env wr ρ σ (.ListComp elt [⟨target, iter, ifs, 0⟩] scope pos) P := by
  constructor
  intro s o f E
  have hsc' := hsc
  simp only [cscope, Bool.and_eq_true, beq_iff_eq, List.all_eq_true] at hsc'
  have hnames : ∀ x ∈ scope.names, x.2 = .local → scope.names.lookup x.1 = some .local := fun x hx hl => by
    have := (hsc'.2 x hx).2
    rw [hl] at this
    simpa using this
  show wpAny C.M A (comprehension (.ListComp elt [⟨target, iter, ifs, 0⟩] scope pos) scope env _ (newList []) false (eval iter env)) _ E s
  refine wpAny_comprehension_free (use := none) rfl hs (closureFor_eq hfr) hsc'.1 hnames (wpAny_mono (h.run s o f E) ?_ fun _ _ x => x)
  rintro v s₁ ⟨d, σ₁, ⟨src, items, it, hin, hsz, cp⟩, r, n₁⟩
  refine it s₁ v n₁.ok r _ _ fun I St s₂ W st hI hk hg hos => ?_
  refine comp_core (RR := fun acc Cc => compPost C.M A E none (Gets C σ s P) acc Cc) (s₁ := s₁) hsz hsc hfr n₁.ok (f.next n₁) W st hI hk hin cp ?_
  intro Dd Lc s' σ' ds m p hD hL hDL hIL hns o' r' hLS frL kp g os
  refine ⟨m, hns, fun h' hb => ?_⟩
  obtain ⟨o'', sq⟩ := store_keep o' frL hLS hb fun x e z => by
    obtain ⟨oL, es, ep, ho, hd, _⟩ := hns
    rw [ho] at e; cases e
    rcases z with ⟨_, _, z⟩ | ⟨⟨_, z⟩, _⟩ <;> rw [hd] at z <;> cases z
  refine ⟨_, _, p, r'.mono sq, n₁.trans ⟨o'', fun a x e n => ?_, g.trans hg, os.trans hos⟩⟩
  have := kp a x e n
  exact ⟨(hb.2 a fun z => by rw [z, hL] at e; cases e).trans this.1, this.2⟩

/-- a comprehension stored under a name (the store lies inside, as the interpreter has it) -/
theorem ex1_assign_comp {y : Str} {py : Pos} {target iter elt : Expr} {ifs : List Expr} {scope : Scope} {pos spos : Pos} {P : Fl → Rho → Sto → Prop}
    (h : Ev C A env wr ρ σ iter fun d σ₁ => ∃ src items, Itr C A d σ₁ src items ∧ InSt src σ₁ ∧ items.length ≤ sizeLine ∧
      ∀ Dd Lc, Comp (C.hid Dd) A (cenvOf scope Lc env) target ifs elt (fun ds σ' => P .nx (setR ρ y (.list ds)) σ') src items [] (seen scope env ρ) σ₁)
    (hy : CanSt env wr y) (hsw : swapsWith (.ListComp elt [⟨target, iter, ifs, 0⟩] scope pos) (some (.Name y py)) spos.line env = pure true := by rfl)
    (hsc : cscope scope = true := by rfl) (hfr : frees env scope = true := by rfl) (hs : ∀ x, foldedSetIterable iter env x = pure x := by intro _; rfl) :
    Ex1 C A env wr ρ σ (.Assign [.Name y py] (.ListComp elt [⟨target, iter, ifs, 0⟩] scope pos) spos) P := by
  constructor
  intro s o f E
  have hsc' := hsc
  simp only [cscope, Bool.and_eq_true, beq_iff_eq, List.all_eq_true] at hsc'
  have hnames : ∀ x ∈ scope.names, x.2 = .local → scope.names.lookup x.1 = some .local := fun x hx hl => by
    have := (hsc'.2 x hx).2
    rw [hl] at this
    simpa using this
  rw [exec_Assign_Name_used _ _ _ _ hsw]
  refine wpAny_bind (wpAny_standAt (wpAny_bind ?_))
  show wpAny _ A (do let _ ← comprehension (.ListComp elt [⟨target, iter, ifs, 0⟩] scope pos) scope env _ (newList []) false (eval iter env) (some (assign (.Name y py) env))) _ _ s
  refine wpAny_bind (wpAny_mono (wpAny_comprehension_free (Q := fun _ s' => Does C env wr σ s P .next s') (use := some (assign (.Name y py) env)) rfl hs (closureFor_eq hfr) hsc'.1 hnames (wpAny_mono (h.run s o f E) ?_ fun _ _ x => x)) (fun _ s' q => wpAny_pure (wpAny_pure q)) fun _ _ x => x)
  rintro v s₁ ⟨d, σ₁, ⟨src, items, it, hin, hsz, cp⟩, r, n₁⟩
  refine it s₁ v n₁.ok r _ _ fun I St s₂ W st hI hk hg hos => ?_
  refine comp_core (RR := fun acc Cc => compPost C.M A E (some (assign (.Name y py) env)) (fun _ s' => Does C env wr σ s P .next s') acc Cc) (s₁ := s₁) hsz hsc hfr n₁.ok (f.next n₁) W st hI hk hin cp ?_
  intro Dd Lc s' σ' ds m p hD hL hDL hIL hns o' r' hLS frL kp g os
  have n' : Nx C σ₁ s₁ σ' s' := ⟨o', kp, g.trans hg, os.trans hos⟩
  have f' := (f.next n₁).next n'
  show wpAny C.M A (assign (.Name y py) env (.ref Dd)) _ E s'
  refine wpAny_assign_Name (wp_store o' f' r' hy fun s'' nz f'' => ?_)
  have hoL := not_own_of_none (f.next n₁) hL
  obtain ⟨oL, es, ep, eL, hdL, rL⟩ := hns
  have eL'' := (nz.le _ _ eL hLS fun w => hoL w.own).1
  refine ⟨m, ⟨oL, es, ep, eL'', hdL, rL⟩, fun h' hb => ?_⟩
  have hb' : ∀ b x, b ≠ Lc → s''.heap.get? b = some x → h'.get? b = some x := fun b x hne e => (hb.2 b hne).trans e
  have nf : ∀ x, s''.heap.get? Lc = some x → ¬ Frz x := fun x e z => by
    rw [eL''] at e; cases e
    rcases z with ⟨_, _, z⟩ | ⟨⟨_, z⟩, _⟩ <;> rw [hdL] at z <;> cases z
  obtain ⟨nz₂, f₂, _⟩ := iter_step (s₀ := s₁) (s₂ := { s'' with heap := h' }) ((n'.nz (f.next n₁)).trans nz) f'' hL frL (nz.le _ _ eL hLS fun w => hoL w.own).2 hoL nf hb' rfl rfl
  exact ⟨_, _, _, p, .nx, (n₁.nz f).trans nz₂, f₂⟩
end
end Mine
namespace Mine

section
variable {C : Cx} {A : Around} {env : Env} {wr : Bool} {ρ : Rho} {σ : Sto} {E : Value → Shared → Prop} {s : Shared} {P : D → Sto → Prop}

-- ints
theorem op_add_int {a b : Int} (h : P (.int (a + b)) σ) : Op2 C A (binaryOp .Add) (.int a) (.int b) σ P := by
  constructor; rintro s _ _ o ⟨⟩ ⟨⟩ E; exact add_int ⟨_, _, h, .int _ _, nx_toks o _⟩
theorem op_sub_int {a b : Int} (h : P (.int (a - b)) σ) : Op2 C A (binaryOp .Sub) (.int a) (.int b) σ P := by
  constructor; rintro s _ _ o ⟨⟩ ⟨⟩ E; exact sub_int ⟨_, _, h, .int _ _, nx_toks o _⟩
theorem op_mul_int {a b : Int} (hm : IntMulOk a b) (h : P (.int (a * b)) σ) : Op2 C A (binaryOp .Mult) (.int a) (.int b) σ P := by
  constructor; rintro s _ _ o ⟨⟩ ⟨⟩ E; exact mul_int ⟨_, _, h, .int _ _, nx_toks o _⟩ hm
theorem op_fdiv_int {a b : Int} (h0 : 0 < b) (h1 : b < 1073741824) (h : P (.int (a / b)) σ) : Op2 C A (binaryOp .FloorDiv) (.int a) (.int b) σ P := by
  constructor; rintro s _ _ o ⟨⟩ ⟨⟩ E
  refine floordiv_int (by omega) ⟨_, _, ?_, .int _ _, nx_toks o _⟩ (Or.inl (PyProof.noPylong_small (by omega)))
  rw [Int.fdiv_eq_ediv_of_nonneg _ (Int.le_of_lt h0)]; exact h
theorem op_mod_int {a b : Int} (h0 : 0 < b) (h : P (.int (a % b)) σ) : Op2 C A (binaryOp .Mod) (.int a) (.int b) σ P := by
  constructor; rintro s _ _ o ⟨⟩ ⟨⟩ E
  refine mod_int' (by omega) ⟨_, _, ?_, .int _ _, nx_toks o _⟩
  rw [Int.fmod_eq_emod_of_nonneg _ (Int.le_of_lt h0)]; exact h
theorem op_pow_int {a n : Int} (hn : 0 ≤ n) (hsz : (Builtin.Int.intBits a : Int) * n ≤ 2 ^ 27) (h : P (.int (a ^ n.toNat)) σ) : Op2 C A (binaryOp .Pow) (.int a) (.int n) σ P := by
  constructor; rintro s _ _ o ⟨⟩ ⟨⟩ E; exact pow_int hn hsz ⟨_, _, h, .int _ _, nx_toks o _⟩
theorem op_eq_int {a b : Int} (h : P (.bool (a == b)) σ) : Op2 C A (compareOp .Eq) (.int a) (.int b) σ P := by
  constructor; rintro s _ _ o ⟨⟩ ⟨⟩ E; exact PySem.P.eq_int ⟨_, _, h, .bool _, .refl o⟩
theorem op_lt_int {a b : Int} (h : P (.bool (decide (a < b))) σ) : Op2 C A (compareOp .Lt) (.int a) (.int b) σ P := by
  constructor; rintro s _ _ o ⟨⟩ ⟨⟩ E; exact PySem.P.lt_int ⟨_, _, h, .bool _, .refl o⟩
theorem op_gt_int {a b : Int} (h : P (.bool (decide (a > b))) σ) : Op2 C A (compareOp .Gt) (.int a) (.int b) σ P := by
  constructor; rintro s _ _ o ⟨⟩ ⟨⟩ E; exact PySem.P.gt_int ⟨_, _, h, .bool _, .refl o⟩
theorem tru_int {a : Int} {P : Bool → Sto → Prop} (h : P (a != 0) σ) : Tru C A (.int a) σ P := by
  constructor; rintro s _ o ⟨⟩ E; exact PySem.P.truthy_int ⟨_, h, .refl o⟩
theorem tru_bool {b : Bool} {P : Bool → Sto → Prop} (h : P b σ) : Tru C A (.bool b) σ P := by
  constructor; rintro s _ o ⟨⟩ E; exact wpAny_truthy_bool ⟨_, h, .refl o⟩
theorem tru_none {P : Bool → Sto → Prop} (h : P false σ) : Tru C A .none σ P := by
  constructor; rintro s _ o ⟨⟩ E; exact truthy_none ⟨_, h, .refl o⟩
end
end Mine
namespace Mine

section
variable {C : Cx} {A : Around} {env : Env} {wr : Bool} {ρ : Rho} {σ : Sto} {E : Value → Shared → Prop} {s : Shared} {P : D → Sto → Prop}

theorem nx_push (o : Ok C σ s.heap) (x : Obj) : Nx C σ s σ { s with heap := s.heap.push x } := Nx.of_keeps o fun _ _ e => Heap.get?_push_of_some _ e
theorem size_notin (o : Ok C σ s.heap) {a : Addr} (ha : s.heap.objs.size ≤ a) : a ∉ C.V σ := by
  obtain ⟨f, n⟩ := free_of_size o ha
  simp only [Cx.V, List.mem_append, not_or]
  exact ⟨n, f.2.2⟩
theorem rep_list (o : Ok C σ s.heap) {vs : List Value} {ds : List D} (r : RepL s.heap (C.V σ) vs ds) : Rep (s.heap.push { cls := .type "list", data := .seq vs.toArray }) (C.V σ) (.ref s.heap.objs.size) (.list ds) :=
  .list ⟨_, Heap.get?_push_size _ rfl, rfl, _, rfl⟩ (size_notin o (Nat.le_refl _)) (r.mono fun _ _ e n _ => ⟨Heap.get?_push_of_some _ e, n⟩)
theorem rep_tuple (o : Ok C σ s.heap) {vs : List Value} {ds : List D} (r : RepL s.heap (C.V σ) vs ds) : Rep (s.heap.push { cls := .type "tuple", data := .seq vs.toArray }) (C.V σ) (.ref s.heap.objs.size) (.tuple ds) :=
  .tuple ⟨_, Heap.get?_push_size _ rfl, rfl, _, rfl⟩ (size_notin o (Nat.le_refl _)) (r.mono fun _ _ e n _ => ⟨Heap.get?_push_of_some _ e, n⟩)

theorem ev_list {es : List Expr} {pos : Pos} (h : EvL C A env wr ρ σ es fun ds σ₁ => ds.length ≤ sizeLine ∧ P (.list ds) σ₁) (hs : noStar es = true := by rfl) : Ev C A env wr ρ σ (.List es pos) P := by
  constructor
  intro s o f E
  refine List_ (wpAny_mono (wp_spliced hs h o f) ?_ fun _ _ x => x)
  rintro vs s₁ ⟨ds, σ₁, ⟨hsz, p⟩, r, n₁⟩
  exact wpAny_newList ⟨_, _, p, rep_list n₁.ok r, n₁.trans (nx_push n₁.ok _)⟩ (by rw [r.length]; exact hsz)
theorem ev_tuple {es : List Expr} {k : Nat} {pos : Pos} (h : EvL C A env wr ρ σ es fun ds σ₁ => ds.length ≤ sizeLine ∧ P (.tuple ds) σ₁) (hs : noStar es = true := by rfl) : Ev C A env wr ρ σ (.Tuple es k pos) P := by
  constructor
  intro s o f E
  refine Tuple_ (wpAny_mono (wp_spliced hs h o f) ?_ fun _ _ x => x)
  rintro vs s₁ ⟨ds, σ₁, ⟨hsz, p⟩, r, n₁⟩
  exact wpAny_newTuple ⟨_, _, p, rep_tuple n₁.ok r, n₁.trans (nx_push n₁.ok _)⟩ (by rw [r.length]; exact hsz)

theorem op_add_list {ds es : List D} (hsz : ds.length + es.length ≤ sizeLine) (h : P (.list (ds ++ es)) σ) : Op2 C A (binaryOp .Add) (.list ds) (.list es) σ P := by
  constructor
  rintro s va vb o ra rb E
  cases ra with
  | list hl na rl =>
    cases rb with
    | list hb nb rb =>
      rename_i a vs b ws
      obtain ⟨⟨cls, dd, data, sl⟩, ho, hc, n, hd⟩ := id hl
      obtain ⟨⟨cls2, dd2, data2, sl2⟩, ho2, hc2, n2, hd2⟩ := id hb
      simp only at hc hd hc2 hd2
      subst hc hd hc2 hd2
      have e : vs.toArray ++ ws.toArray = (vs ++ ws).toArray := by simp
      refine concat_meets ⟨_, ho, rfl⟩ ⟨_, ho2, rfl⟩ noFill_list_add seq_list_add PySem.F.slot_list_add PySem.F.entry_list_add (PySem.F.args_list_add_2 _ _)
        (list_addW a b vs.toArray ws.toArray n n2 dd dd2 sl sl2 (by simpa [rl.length, rb.length] using hsz)) ⟨ho, ho2, ?_⟩
      rw [e]
      exact ⟨_, _, h, rep_list o (rl.append rb), nx_push o _⟩

/-- what indexes a built-in container -/
noncomputable def BT (d : D) : Prop := (∃ ds, d = .list ds) ∨ (∃ ds, d = .tuple ds) ∨ (∃ x, d = .str x) ∨ (∃ b, d = .bytes b)
theorem bt_type {v : Value} {d : D} {h : Heap} {V : List Addr} (r : Rep h V v d) (b : BT d) (s : Shared) (hs : s.heap = h) : ∃ T id, typeLookup (.type T) "__getitem__" = pure (some (.builtin id)) ∧ s.TypeIs v T := by
  subst hs
  rcases b with ⟨_, rfl⟩ | ⟨_, rfl⟩ | ⟨_, rfl⟩ | ⟨_, rfl⟩
  · cases r with | list hl _ _ => exact ⟨"list", _, slot_list_getitem.lookup, hl.typeIs⟩
  · cases r with | tuple hl _ _ => exact ⟨"tuple", _, PySem.F.slot_tuple_getitem.lookup, hl.typeIs⟩
  · cases r; exact ⟨"str", _, PySem.F.slot_str_getitem.lookup, typeIs_str _ _ _⟩
  · cases r; exact ⟨"bytes", _, FB.slot_bytes_getitem.lookup, typeIs_bytes _ _ _⟩

theorem subscripted_of (slice : Expr) (o i : Value) : ∃ l, subscripted slice false o i = operate l (getItem o i) := by
  cases slice with
  | Slice lo hi st p => cases st <;> exact ⟨_, rfl⟩
  | _ => exact ⟨_, rfl⟩
theorem wp_subscript {prog : Program} {w : World} {value slice : Expr} {pos : Pos} {Q : Value → Shared → Prop}
    (h : wpAny (model prog w) A (eval value env) (fun o s₁ => wpAny (model prog w) A (eval slice env) (fun i s₂ => (∃ T id, typeLookup (.type T) "__getitem__" = pure (some (.builtin id)) ∧ s₂.TypeIs o T) ∧ wpAny (model prog w) A (getItem o i) Q E s₂) E s₁) E s) :
    wpAny (model prog w) A (eval (.Subscript value slice pos) env) Q E s := by
  rw [eval_Subscript]
  refine wpAny_bind (wpAny_mono h (fun o s₁ h₁ => wpAny_bind (wpAny_holding (wpAny_mono h₁ (fun i s₂ h₂ => wpAny_bind (wpAny_standAt ?_)) fun _ _ x => x))) fun _ _ x => x)
  obtain ⟨⟨T, id, hl, hT⟩, h₂⟩ := h₂
  obtain ⟨l, hl'⟩ := subscripted_of slice o i
  have fin : wpAny (model prog w) A (operate l (getItem o i)) (fun r s₃ => wpAny (model prog w) A (letTemporaryGo value o r >>= fun _ => pure r) Q E s₃) E s₂ :=
    wpAny_operating (wpAny_mono h₂ (fun r s₃ h₃ => wpAny_bind (wpAny_letTemporaryGo (wpAny_pure h₃))) fun _ _ x => x)
  have fin' : wpAny (model prog w) A (subscripted slice false o i) (fun r s₃ => wpAny (model prog w) A (letTemporaryGo value o r >>= fun _ => pure r) Q E s₃) E s₂ := by rw [hl']; exact fin
  first
    | (refine wpAny_bind ?_
       rw [getitemInPython_of_ne hT.not_modules]
       refine wpAny_bind (wpAny_specialOf hT hl ?_)
       first
         | exact wpAny_pure (wpAny_bind fin')
         | exact wpAny_bind (wpAny_pure (wpAny_bind fin'))
         | exact wpAny_bind fin')
    | (refine wpAny_bind (wpAny_specialOf hT hl ?_)
       first
         | exact wpAny_bind (wpAny_pure (wpAny_bind fin'))
         | exact wpAny_bind fin')

theorem ev_sub {value slice : Expr} {pos : Pos} (h : Ev C A env wr ρ σ value fun d σ₁ => Ev C A env wr ρ σ₁ slice fun i σ₂ => BT d ∧ Op2 C A getItem d i σ₂ P) : Ev C A env wr ρ σ (.Subscript value slice pos) P := by
  constructor
  intro s o f E
  refine wp_subscript (wpAny_mono (h.run s o f E) ?_ fun _ _ x => x)
  rintro v s₁ ⟨d, σ₁, p₁, r₁, n₁⟩
  refine wpAny_mono (p₁.run s₁ n₁.ok (f.next n₁) E) ?_ fun _ _ x => x
  rintro i s₂ ⟨e, σ₂, ⟨bt, p₂⟩, r₂, n₂⟩
  have r₁' := r₁.next n₂
  exact ⟨bt_type r₁' bt s₂ rfl, wpAny_mono (p₂.run s₂ v i n₂.ok r₁' r₂ E) (fun _ _ g => Gets.next (n₁.trans n₂) g) fun _ _ x => x⟩

theorem bt_list {ds : List D} : BT (.list ds) := .inl ⟨_, rfl⟩
theorem bt_bytes {x : Array UInt8} : BT (.bytes x) := .inr (.inr (.inr ⟨_, rfl⟩))

theorem op_item_list {ds : List D} {k : Int} {d : D} (h0 : 0 ≤ k) (h1 : k < 2 ^ 63) (hd : ds[k.toNat]? = some d) (h : P d σ) : BT (.list ds) ∧ Op2 C A getItem (.list ds) (.int k) σ P := by
  refine ⟨bt_list, ?_⟩
  constructor
  rintro s va vb o ra rb E
  cases ra with
  | list hl na rl =>
    cases rb
    obtain ⟨v, hv, rv⟩ := rl.get hd
    exact wpAny_getItem_list hl h0 h1 (by simpa using hv) ⟨_, _, h, rv, .refl o⟩
end
end Mine
namespace Mine

noncomputable def cutL {α : Type} (l : List α) (lo hi : Option Int) : List α := (l.drop (lo.elim 0 (clipAt l.length))).take (hi.elim l.length (clipAt l.length) - lo.elim 0 (clipAt l.length))
theorem cutL_take {α : Type} (l : List α) (k : Nat) : cutL l none (some (k : Int)) = l.take k := by
  simp only [cutL, Option.elim, clipAt_nat, List.drop_zero, Nat.sub_zero]
  rcases Nat.le_total k l.length with h | h
  · rw [Nat.min_eq_left h]
  · rw [Nat.min_eq_right h, List.take_length, List.take_of_length_le h]
theorem cutL_drop {α : Type} (l : List α) (k : Nat) : cutL l (some (k : Int)) none = l.drop k := by
  simp only [cutL, Option.elim, clipAt_nat]
  rcases Nat.le_total k l.length with h | h
  · rw [Nat.min_eq_left h, List.take_of_length_le (by simp)]
  · rw [Nat.min_eq_right h, List.drop_length, List.drop_of_length_le h]; simp
theorem cutL_mid {α : Type} (l : List α) (a b : Nat) : cutL l (some (a : Int)) (some (b : Int)) = (l.take b).drop a := by
  simp only [cutL, Option.elim, clipAt_nat]
  rw [List.drop_take]
  rcases Nat.le_total a l.length with h | h
  · rw [Nat.min_eq_left h]
    rcases Nat.le_total b l.length with h' | h'
    · rw [Nat.min_eq_left h']
    · rw [Nat.min_eq_right h', List.take_of_length_le (by simp), List.take_of_length_le (by simp; omega)]
  · rw [Nat.min_eq_right h, List.drop_length, List.drop_of_length_le h]; simp

section
variable {C : Cx} {A : Around} {env : Env} {wr : Bool} {ρ : Rho} {σ : Sto} {E : Value → Shared → Prop} {s : Shared} {P : D → Sto → Prop}

theorem RepL.cut {h : Heap} {S : List Addr} {vs : List Value} {ds : List D} (r : RepL h S vs ds) (lo hi : Option Int) : RepL h S (cutL vs lo hi) (cutL ds lo hi) := by
  unfold cutL
  rw [r.length]
  exact (r.drop _).take _

noncomputable def EvPart (C : Cx) (A : Around) (env : Env) (wr : Bool) (ρ : Rho) (σ : Sto) : Option Expr → (Option Int → Sto → Prop) → Prop
  | none, P => P none σ
  | some e, P => Ev C A env wr ρ σ e fun d σ₁ => ∃ i, d = .int i ∧ P (some i) σ₁
structure Cut (C : Cx) (A : Around) (d : D) (lo hi : Option Int) (σ : Sto) (P : D → Sto → Prop) : Prop where
  run : ∀ s v sl vl vu, Ok C σ s.heap → Rep s.heap (C.V σ) v d → s.heap.IsSliceOf sl vl vu .none → IsPart vl lo → IsPart vu hi → ∀ E, wpAny C.M A (getItem v (.ref sl)) (Gets C σ s P) E s

theorem wp_part {e : Option Expr} {P : Option Int → Sto → Prop} (h : EvPart C A env wr ρ σ e P) (o : Ok C σ s.heap) (f : Fm C σ s.heap env wr ρ) :
    wpAny C.M A (evalPart e env) (fun v s' => ∃ i σ', P i σ' ∧ IsPart v i ∧ Nx C σ s σ' s') E s := by
  cases e with
  | none => exact wpAny_pure ⟨none, σ, h, .none, .refl o⟩
  | some e =>
    refine wpAny_mono (Ev.run h s o f E) ?_ fun _ _ x => x
    rintro v s₁ ⟨_, σ₁, ⟨i, rfl, p⟩, r, n⟩
    cases r
    exact ⟨some i, σ₁, p, .int _ _, n⟩

theorem ev_cut {value : Expr} {lower upper : Option Expr} {p pos : Pos} (h : Ev C A env wr ρ σ value fun d σ₁ => EvPart C A env wr ρ σ₁ lower fun lo σ₂ => EvPart C A env wr ρ σ₂ upper fun hi σ₃ => BT d ∧ Cut C A d lo hi σ₃ P) :
    Ev C A env wr ρ σ (.Subscript value (.Slice lower upper none p) pos) P := by
  constructor
  intro s o f E
  refine wp_subscript (wpAny_mono (h.run s o f E) ?_ fun _ _ x => x)
  rintro v s₁ ⟨d, σ₁, p₁, r₁, n₁⟩
  refine wpAny_Slice (wpAny_mono (wp_part p₁ n₁.ok (f.next n₁)) ?_ fun _ _ x => x)
  rintro vl s₂ ⟨lo, σ₂, p₂, q₂, n₂⟩
  refine wpAny_mono (wp_part p₂ n₂.ok ((f.next n₁).next n₂)) ?_ fun _ _ x => x
  rintro vu s₃ ⟨hi, σ₃, ⟨bt, p₃⟩, q₃, n₃⟩
  rw [evalPart_none]
  refine wpAny_pure ?_
  have n₄ := nx_push n₃.ok { cls := .type "slice", data := .fields #[vl, vu, .none] }
  have r₄ := ((r₁.next n₂).next n₃).next n₄
  exact ⟨bt_type r₄ bt _ rfl, wpAny_mono (p₃.run _ v _ vl vu n₄.ok r₄ (Heap.IsSliceOf.new ..) q₂ q₃ E) (fun _ _ g => Gets.next (((n₁.trans n₂).trans n₃).trans n₄) g) fun _ _ x => x⟩

theorem cut_list {ds : List D} {lo hi : Option Int} (hsz : ds.length ≤ sizeLine) (h : P (.list (cutL ds lo hi)) σ) : BT (.list ds) ∧ Cut C A (.list ds) lo hi σ P := by
  refine ⟨bt_list, ?_⟩
  constructor
  intro s v sl vl vu o r hs q₁ q₂ E
  cases r with
  | list hl hn rl =>
    rename_i a vs
    refine wpAny_getItem_list_slice hl hs q₁ q₂ .none (by simp) ?_ (by simpa [rl.length] using hsz)
    rw [slicePick_plain]
    have := rep_list o (rl.cut lo hi)
    refine ⟨_, _, h, ?_, nx_push o _⟩
    simpa [cutL] using this
theorem cut_bytes {b : Array UInt8} {lo hi : Option Int} (hsz : b.size ≤ sizeLine) (h : P (.bytes (cutL b.toList lo hi).toArray) σ) : BT (.bytes b) ∧ Cut C A (.bytes b) lo hi σ P := by
  refine ⟨bt_bytes, ?_⟩
  constructor
  intro s v sl vl vu o r hs q₁ q₂ E
  cases r
  refine getItem_meets (typeIs_bytes _ _ _) (by decide) FB.slot_bytes_getitem FB.entry_bytes_getitem (FB.args_bytes_getitem_2 _ _) (KBc.meets_slice2 b _ _ q₁ q₂) ⟨hs, Nat.le_trans (KBc.size_picked_le b lo hi) hsz, fun t' k => ?_⟩
  rw [KBc.picked_eq]
  refine ⟨_, _, h, ?_, nx_toks o _⟩
  have : ((b.toList.drop (lo.elim 0 (clipAt b.size))).take (hi.elim b.size (clipAt b.size) - lo.elim 0 (clipAt b.size))) = cutL b.toList lo hi := by simp [cutL]
  rw [this]
  exact .bytes _ _

-- texts
theorem op_add_bytes {x y : Array UInt8} (hsz : x.size + y.size ≤ 16777216) (h : P (.bytes (x ++ y)) σ) : Op2 C A (binaryOp .Add) (.bytes x) (.bytes y) σ P := by
  constructor; rintro s _ _ o ⟨⟩ ⟨⟩ E; exact KBy.add_bytes hsz fun t' k => ⟨_, _, h, .bytes _ _, nx_toks o _⟩
theorem op_eq_str {x y : Str} (h : P (.bool (x.cps.toList == y.cps.toList)) σ) : Op2 C A (compareOp .Eq) (.str x) (.str y) σ P := by
  constructor; rintro s _ _ o ⟨⟩ ⟨⟩ E; exact PySem.P.eq_str ⟨_, _, h, .bool _, .refl o⟩
theorem ev_bytes {x : List UInt8} {k : Nat} {pos : Pos} (h : P (.bytes x.toArray) σ) : Ev C A env wr ρ σ (.Constant (.bytes x) k pos) P := by
  constructor; intro s o f E; exact Constant_bytes ⟨_, _, h, .bytes _ _, nx_toks o _⟩
-- built-in functions
theorem RepL.inv1 {h : Heap} {S : List Addr} {vs : List Value} {a : D} (r : RepL h S vs [a]) : ∃ v, vs = [v] ∧ Rep h S v a := by
  cases r with | cons r1 r => cases r; exact ⟨_, rfl, r1⟩
theorem RepL.inv2 {h : Heap} {S : List Addr} {vs : List Value} {a b : D} (r : RepL h S vs [a, b]) : ∃ v u, vs = [v, u] ∧ Rep h S v a ∧ Rep h S u b := by
  cases r with | cons r1 r => obtain ⟨u, rfl, r2⟩ := r.inv1; exact ⟨_, _, rfl, r1, r2⟩
theorem RepL.inv3 {h : Heap} {S : List Addr} {vs : List Value} {a b c : D} (r : RepL h S vs [a, b, c]) : ∃ v u w, vs = [v, u, w] ∧ Rep h S v a ∧ Rep h S u b ∧ Rep h S w c := by
  cases r with | cons r1 r => obtain ⟨u, w, rfl, r2, r3⟩ := r.inv2; exact ⟨_, _, _, rfl, r1, r2, r3⟩
theorem ca_intro {f : Value} {args : List D} (h : ∀ s vs, Ok C σ s.heap → RepL s.heap (C.V σ) vs args → ∀ E, wpAny C.M A (call f vs []) (Gets C σ s P) E s) : Ca C A f args [] σ P := by
  constructor
  intro s vs ks o r q E
  exact h s vs o r E
theorem ca_abs {a : Int} (h : P (.int (if a < 0 then -a else a)) σ) : Ca C A (.builtin "abs") [.int a] [] σ P := by
  refine ca_intro fun s vs o r E => ?_
  cases r with | cons r1 r => cases r; cases r1; exact call_abs_int fun u tk => ⟨_, _, h, .int _ _, nx_toks o _⟩
theorem ca_int {a : Int} (h : P (.int a) σ) : Ca C A (.type "int") [.int a] [] σ P := by
  refine ca_intro fun s vs o r E => ?_
  cases r with | cons r1 r => cases r; cases r1; exact call_int_int ⟨_, _, h, .int _ _, .refl o⟩
theorem ca_divmod {a b : Int} (h0 : 0 < b) (h1 : b < 1073741824) (h : P (.tuple [.int (a / b), .int (a % b)]) σ) : Ca C A (.builtin "divmod") [.int a, .int b] [] σ P := by
  refine ca_intro fun s vs o r E => ?_
  obtain ⟨_, _, rfl, r1, r2⟩ := r.inv2
  cases r1; cases r2
  refine divmod_int (by omega) ⟨_, _, h, ?_, ?_⟩ (Or.inl (PyProof.noPylong_small (by omega)))
  · have := rep_tuple (s := s) o (vs := [.int (a.fdiv b) s.toks, .int (a.fmod b) (s.toks + 1)]) (ds := [.int (a / b), .int (a % b)])
      (.cons (by rw [Int.fdiv_eq_ediv_of_nonneg _ (Int.le_of_lt h0)]; exact .int _ _) (.cons (by rw [Int.fmod_eq_emod_of_nonneg _ (Int.le_of_lt h0)]; exact .int _ _) .nil))
    exact this
  · exact Nx.of_keeps o fun _ _ e => Heap.get?_push_of_some _ e
theorem ca_chr {i : Int} (h0 : 0 ≤ i) (h1 : i ≤ 1114111) (h : P (.str ⟨#[i.toNat]⟩) σ) : Ca C A (.builtin "chr") [.int i] [] σ P := by
  refine ca_intro fun s vs o r E => ?_
  cases r with | cons r1 r => cases r; cases r1; exact chr_of_range h0 h1 ⟨_, _, h, .str _ _, nx_toks o _⟩
theorem ca_ord {c : Nat} (h : P (.int c) σ) : Ca C A (.builtin "ord") [.str ⟨#[c]⟩] [] σ P := by
  refine ca_intro fun s vs o r E => ?_
  cases r with | cons r1 r => cases r; cases r1; exact PySem.P.ord_of_char ⟨_, _, h, .int _ _, nx_toks o _⟩
theorem ca_len_list {ds : List D} (hsz : ds.length ≤ sizeLine) (h : P (.int ds.length) σ) : Ca C A (.builtin "len") [.list ds] [] σ P := by
  refine ca_intro fun s vs o r E => ?_
  obtain ⟨_, rfl, r1⟩ := r.inv1
  cases r1 with
  | list hl hn rl =>
    rename_i a vs
    have e := rl.length
    refine len_list hl (by have : sizeLine = 16777216 := rfl; simp; omega) ⟨_, _, h, ?_, nx_toks o _⟩
    have : ((vs.toArray.size : Nat) : Int) = (ds.length : Int) := by simp [e]
    rw [this]; exact .int _ _
end
end Mine
namespace Mine

section
variable {C : Cx} {A : Around} {env : Env} {wr : Bool} {ρ : Rho} {σ : Sto} {E : Value → Shared → Prop} {s : Shared} {P : D → Sto → Prop}

-- targets
noncomputable def AsgL (C : Cx) (A : Around) (env : Env) (wr : Bool) : Rho → Sto → List Expr → List D → (Rho → Sto → Prop) → Prop
  | ρ, σ, [], [], P => P ρ σ
  | ρ, σ, t :: ts, d :: ds, P => Asg C A env wr ρ σ t d fun ρ₁ σ₁ => AsgL C A env wr ρ₁ σ₁ ts ds P
  | _, _, _, _, _ => False

theorem noStar_assign {t : Expr} {ts : List Expr} (h : noStar (t :: ts) = true) : noStar ts = true ∧ assignEach (t :: ts) env = (false, assign t env) :: assignEach ts env := by
  cases t <;> first | exact ⟨h, rfl⟩ | cases h
theorem assignEach_length : ∀ {ts : List Expr}, noStar ts = true → (assignEach ts env).length = ts.length ∧ (assignEach ts env).findIdx? (·.1) = none
  | [], _ => ⟨rfl, rfl⟩
  | t :: ts, h => by
    obtain ⟨h1, h2⟩ := noStar_assign (env := env) h
    obtain ⟨h3, h4⟩ := assignEach_length (ts := ts) h1
    rw [h2]
    exact ⟨by simp [h3], by simp [List.findIdx?_cons, h4]⟩
theorem wp_order : ∀ {ts : List Expr} {ds : List D} {vs : List Value} {ρ : Rho} {σ : Sto} {s : Shared} {P : Rho → Sto → Prop}, noStar ts = true → AsgL C A env wr ρ σ ts ds P → Ok C σ s.heap → Fm C σ s.heap env wr ρ → RepL s.heap (C.V σ) vs ds →
    wpAny C.M A (assignInOrder ((assignEach ts env).map (·.2)) vs) (fun _ s' => ∃ ρ' σ', P ρ' σ' ∧ Nz C env wr σ s σ' s' ∧ Fm C σ' s'.heap env wr ρ') E s
  | [], [], vs, ρ, σ, s, P, _, h, o, f, r => by cases r; exact wpAny_pure ⟨ρ, σ, h, .refl o f, f⟩
  | t :: ts, d :: ds, vs, ρ, σ, s, P, hs, h, o, f, r => by
    obtain ⟨h1, h2⟩ := noStar_assign (env := env) hs
    cases r with
    | cons r1 r =>
      rw [h2]
      show wpAny _ _ (do holding _ (assign t env _); assignInOrder ((assignEach ts env).map (·.2)) _) _ _ _
      refine wpAny_bind (wpAny_holding (wpAny_mono (Asg.run h s _ o f r1 E) ?_ fun _ _ x => x))
      rintro _ s₁ ⟨ρ₁, σ₁, p₁, nz₁, f₁⟩
      refine wpAny_mono (wp_order h1 p₁ nz₁.ok f₁ (r.mono (nz₁.seqs f))) ?_ fun _ _ x => x
      rintro _ s₂ ⟨ρ₂, σ₂, p₂, nz₂, f₂⟩
      exact ⟨ρ₂, σ₂, p₂, nz₁.trans nz₂, f₂⟩
  | [], _ :: _, _, _, _, _, _, _, h, _, _, _ => h.elim
  | _ :: _, [], _, _, _, _, _, _, h, _, _, _ => h.elim
theorem ext_keeps {h h' : Heap} (e : Heap.ExtBut h.objs.size h h') : ∀ a o, h.get? a = some o → h'.get? a = some o := fun a o q => e a o (Nat.ne_of_lt (Heap.lt_size q)) q

theorem asg_tuple {ts : List Expr} {k : Nat} {pos : Pos} {ds : List D} {P : Rho → Sto → Prop} (hh : A.handled = none) (hl : ts.length = ds.length) (h : AsgL C A env wr ρ σ ts ds P) (hs : noStar ts = true := by rfl) : Asg C A env wr ρ σ (.Tuple ts k pos) (.tuple ds) P := by
  constructor
  intro s v o f r E
  obtain ⟨e1, e2⟩ := assignEach_length (env := env) hs
  cases r with
  | tuple ht hn rl =>
    refine wpAny_assign_Tuple hh ht (by rw [e1, hl]; simp [rl.length]) e2 fun h' he => ?_
    have n := Nx.of_keeps (s' := { s with heap := h' }) o (ext_keeps he)
    refine wpAny_mono (wp_order hs h n.ok (f.next n) (rl.next n)) ?_ fun _ _ x => x
    rintro _ s₂ ⟨ρ₂, σ₂, p₂, nz₂, f₂⟩
    exact ⟨ρ₂, σ₂, p₂, (n.nz f).trans nz₂, f₂⟩
theorem asg_unlist {ts : List Expr} {k : Nat} {pos : Pos} {ds : List D} {P : Rho → Sto → Prop} (hh : A.handled = none) (hl : ts.length = ds.length) (h : AsgL C A env wr ρ σ ts ds P) (hs : noStar ts = true := by rfl) : Asg C A env wr ρ σ (.Tuple ts k pos) (.list ds) P := by
  constructor
  intro s v o f r E
  obtain ⟨e1, e2⟩ := assignEach_length (env := env) hs
  cases r with
  | list ht hn rl =>
    rename_i a vs
    show wpAny C.M A (do standAt pos; unpack (.ref a) (assignEach ts env)) _ E s
    refine wpAny_bind (wpAny_standAt ?_)
    unfold unpack
    rw [e2, show (assignEach ts env).length = vs.toArray.size by rw [e1, hl]; simp [rl.length]]
    refine wpAny_bind (wpAny_holding (kun_itemsOf hh ht fun h' he => ?_))
    have n := Nx.of_keeps (s' := { s with heap := h' }) o (ext_keeps he)
    refine wpAny_mono (wp_order hs h n.ok (f.next n) (by simpa using rl.next n)) ?_ fun _ _ x => x
    rintro _ s₂ ⟨ρ₂, σ₂, p₂, nz₂, f₂⟩
    exact ⟨ρ₂, σ₂, p₂, (n.nz f).trans nz₂, f₂⟩

theorem ex1_assign_t {t e : Expr} {pos : Pos} {P : Fl → Rho → Sto → Prop} (h : Ev C A env wr ρ σ e fun d σ₁ => Asg C A env wr ρ σ₁ t d fun ρ' σ' => P .nx ρ' σ')
    (hst : noStar [t] = true := by rfl) (hs : swapsWithSole [t] e pos.line env = pure false := by rfl) (hw : swappedStores [t] e env = pure none := by rfl) : Ex1 C A env wr ρ σ (.Assign [t] e pos) P := by
  constructor
  intro s o f E
  refine wpAny_Assign_stores (wpAny_mono (h.run s o f E) ?_ fun _ _ x => x) hs hw
  rintro v s₁ ⟨d, σ₁, p, r, n₁⟩
  obtain ⟨_, h2⟩ := noStar_assign (env := env) hst
  rw [h2]
  show wpAny C.M A (assign t env v) _ E s₁
  refine wpAny_mono (p.run s₁ v n₁.ok (f.next n₁) r E) ?_ fun _ _ x => x
  rintro _ s₂ ⟨ρ₂, σ₂, p₂, nz₂, f₂⟩
  exact ⟨_, _, _, p₂, .nx, (n₁.nz f).trans nz₂, f₂⟩

theorem evl_nil {P : List D → Sto → Prop} (h : P [] σ) : EvL C A env wr ρ σ [] P := h
theorem evk_nil {P : List (Str × D) → Sto → Prop} (h : P [] σ) : EvK C A env wr ρ σ [] P := h
theorem evl_cons {e : Expr} {es : List Expr} {P : List D → Sto → Prop} (h : Ev C A env wr ρ σ e fun d σ₁ => EvL C A env wr ρ σ₁ es fun ds σ₂ => P (d :: ds) σ₂) : EvL C A env wr ρ σ (e :: es) P := h
theorem evk_cons {e : Keyword} {es : List Keyword} {P : List (Str × D) → Sto → Prop} (h : Ev C A env wr ρ σ e.value fun d σ₁ => EvK C A env wr ρ σ₁ es fun ds σ₂ => P ((e.arg.getD Str.empty, d) :: ds) σ₂) : EvK C A env wr ρ σ (e :: es) P := h
theorem evp_none {P : Option Int → Sto → Prop} (h : P none σ) : EvPart C A env wr ρ σ none P := h
theorem evp_some {e : Expr} {P : Option Int → Sto → Prop} (h : Ev C A env wr ρ σ e fun d σ₁ => ∃ i, d = .int i ∧ P (some i) σ₁) : EvPart C A env wr ρ σ (some e) P := h
theorem asgl_nil {P : Rho → Sto → Prop} (h : P ρ σ) : AsgL C A env wr ρ σ [] [] P := h
theorem asgl_cons {t : Expr} {ts : List Expr} {d : D} {ds : List D} {P : Rho → Sto → Prop} (h : Asg C A env wr ρ σ t d fun ρ₁ σ₁ => AsgL C A env wr ρ₁ σ₁ ts ds P) : AsgL C A env wr ρ σ (t :: ts) (d :: ds) P := h

-- methods
structure Gm (C : Cx) (A : Around) (d : D) (name : Str) (f : Value) (σ : Sto) : Prop where
  run : ∀ s v pl, Ok C σ s.heap → Rep s.heap (C.V σ) v d → ∀ E Q, Q (f, [v]) s → wpAny C.M A (getMethod v name pl) Q E s
theorem gm_lower {x : Str} : Gm C A (.str x) "lower" (.builtin "str.lower") σ := by constructor; rintro s _ pl o ⟨⟩ E Q h; exact GM.lower h
theorem gm_join {x : Str} : Gm C A (.str x) "join" (.builtin "str.join") σ := by constructor; rintro s _ pl o ⟨⟩ E Q h; exact GM.join h
theorem gm_split {x : Str} : Gm C A (.str x) "split" (.builtin "str.split") σ := by constructor; rintro s _ pl o ⟨⟩ E Q h; exact GM.split h

theorem ev_method {o : Expr} {name : Str} {apos pos : Pos} {args : List Expr} {kws : List Keyword} {pl : Sem Bool}
    (h : Ev C A env wr ρ σ o fun d σ₁ => ∃ f, Gm C A d name f σ₁ ∧ Kp C f ∧ EvL C A env wr ρ σ₁ args fun ds σ₂ => EvK C A env wr ρ σ₂ kws fun ks σ₃ => Ca C A f (d :: ds) ks σ₃ P)
    (he : eval (.Call (.Attribute o name apos) args kws pos) env = (do
      let ov ← eval o env
      standAt apos.atName
      let (f, first) ← holding [ov] (getMethod ov name pl)
      callWith pos f first (backTo pos (starEach args env)) (backToKw pos (keywordEach kws env))) := by rfl)
    (hs : noStar args = true := by rfl) (hk : kws.all (·.arg.isSome) = true := by rfl) : Ev C A env wr ρ σ (.Call (.Attribute o name apos) args kws pos) P := by
  constructor
  intro s ok f E
  rw [he]
  refine wpAny_bind (wpAny_mono (h.run s ok f E) ?_ fun _ _ x => x)
  rintro v s₁ ⟨d, σ₁, ⟨fv, gm, kp, q⟩, r, n₁⟩
  refine wpAny_bind (wpAny_standAt (wpAny_bind (wpAny_holding (gm.run s₁ v pl n₁.ok r E _ ?_))))
  exact wpAny_mono (wp_callWith kp n₁.ok (f.next n₁) (.cons r .nil) q hs hk) (fun _ _ g => Gets.next n₁ g) fun _ _ x => x

theorem strs_rep {h : Heap} {S : List Addr} : ∀ {vs : List Value} {xs : List Str}, RepL h S vs (xs.map .str) → ∃ l : List (Str × Tok), vs = strValues l ∧ l.map (·.1) = xs
  | _, [], r => by cases r; exact ⟨[], rfl, rfl⟩
  | _, x :: xs, r => by
    cases r with
    | cons r1 r =>
      cases r1 with
      | str _ t =>
        obtain ⟨l, rfl, e⟩ := strs_rep r
        exact ⟨(x, t) :: l, rfl, by simp [e]⟩
theorem ca_join {x : Str} {xs : List Str} (hok : JoinOk x xs = true) (h : P (.str (Txt.join x xs)) σ) : Ca C A (.builtin "str.join") [.str x, .list (xs.map .str)] [] σ P := by
  refine ca_intro fun s vs o r E => ?_
  obtain ⟨_, _, rfl, r1, r2⟩ := r.inv2
  cases r1
  cases r2 with
  | list hl hn rl =>
    obtain ⟨l, rfl, e⟩ := strs_rep rl
    exact SC.join hl e hok fun t' k => ⟨_, _, h, .str _ _, nx_toks o _⟩
theorem ca_lower {x : Str} (hsz : x.length ≤ 5592405) (h : P (.str (Txt.lower x)) σ) : Ca C A (.builtin "str.lower") [.str x] [] σ P := by
  refine ca_intro fun s vs o r E => ?_
  obtain ⟨_, rfl, r1⟩ := r.inv1
  cases r1
  exact SCL.lower hsz fun _ => ⟨_, _, h, .str _ _, nx_toks o _⟩

theorem ca_range1 {n : Int} (h : P (.range 0 n 1) σ) : Ca C A (.type "range") [.int n] [] σ P := by
  refine ca_intro fun s vs o r E => ?_
  obtain ⟨_, rfl, r1⟩ := r.inv1
  cases r1
  exact call_range_1 ⟨_, _, h, .range (IsRange.new ..) (size_notin o (Nat.le_refl _)), Nx.of_keeps o fun _ _ e => Heap.get?_push_of_some _ e⟩
theorem ca_range3 {a b c : Int} (hc : 0 < c) (hc' : c < 1073741824) (h : P (.range a b c) σ) : Ca C A (.type "range") [.int a, .int b, .int c] [] σ P := by
  refine ca_intro fun s vs o r E => ?_
  obtain ⟨_, _, _, rfl, r1, r2, r3⟩ := r.inv3
  cases r1; cases r2; cases r3
  exact call_range_3 (by omega) ⟨_, _, h, .range (IsRange.new ..) (size_notin o (Nat.le_refl _)), Nx.of_keeps o fun _ _ e => Heap.get?_push_of_some _ e⟩ (Or.inl (PyProof.noPylong_small (by omega)))

-- iterating over bytes
noncomputable def octets (b : Array UInt8) : List D := b.toList.map fun c => .int (c.toNat : Int)
theorem wk_bytes (hh : A.handled = none) {I : Addr} {b : Array UInt8} {t : Tok} : Wk C A I none (octets b) (fun i h _ => KBw.IsBytesIter h I b t i) where
  frame := fun i h σ h' σ' st kI sq _ _ => by obtain ⟨o, ho, r⟩ := st; exact ⟨o, kI o ho, r⟩
  item := fun i σ s Q E d hd st ok _ hQ => by
    obtain ⟨c, hc, rfl⟩ : ∃ c, b[i]? = some c ∧ d = .int (c.toNat : Int) := by
      simp only [octets, List.getElem?_map, Option.map_eq_some_iff] at hd
      obtain ⟨c, h1, h2⟩ := hd
      exact ⟨c, by simpa using h1, h2.symm⟩
    exact KBw.next_item st hc fun h' hit hb => hQ _ _ (fun ok' sq => ⟨.int _ _, hit⟩) (fun b o hne e => (hb.2 b hne).trans e) rfl rfl
  done := fun σ s Q E st ok _ hQ => by
    rw [show (octets b).length = b.size by simp [octets]] at st
    exact KBw.next_end hh st (by simp) fun h' he => hQ _ (fun b o hne e => he b o hne e) rfl rfl
  self := fun i σ s Q E st hQ => KBw.pyIter_self st hQ
  go := fun t i σ s v Q E st hQ => by
    obtain ⟨o, ho, hc, hd⟩ := st
    exact go_iter ho hc hd (by decide) hQ
  ex := fun i h σ st => by obtain ⟨o', ho, _⟩ := st; exact ⟨_, ho⟩
  nf := fun i h σ st o e => by
    obtain ⟨o', ho, hc, hd⟩ := st
    rw [ho] at e; cases e
    rintro (⟨_, _, z⟩ | ⟨_, z⟩)
    · rw [hd] at z; cases z
    · rw [hc] at z; exact absurd z (by decide)
theorem itr_bytes (hh : A.handled = none) {b : Array UInt8} : Itr C A (.bytes b) σ none (octets b) := by
  intro s v ok r E Q hQ
  cases r with
  | bytes _ t =>
    refine KBw.pyIter_bytes ?_
    exact hQ s.heap.objs.size _ _ (fun Zs => wk_bytes (C := C.withZ Zs) hh (t := t)) (fun Zs h'' kI sq => ⟨_, kI _ (Heap.get?_push_size _ rfl), rfl, rfl⟩) none_at_size (fun b o e => Heap.get?_push_of_some _ e) rfl rfl
end
end Mine
namespace Mine

section
variable {C : Cx} {A : Around} {env : Env} {wr : Bool} {ρ : Rho} {σ : Sto} {E : Value → Shared → Prop} {s : Shared} {P : D → Sto → Prop}

/-- the way into a def of the text, its body still to be run -/
theorem fun_entry {fa : Addr} {fd : FuncData} {body : List Stmt} {args : List D} {kw : List (Str × D)} {R : Rho → Sto → Prop} {n : Nat} {vs ks : List Value} {RR : Result → Shared → Prop} (rm : Rm n A) (F : FnAt C fa fd body)
    (o : Ok C σ s.heap) (r : RepL s.heap (C.V σ) vs args) (q : RepL s.heap (C.V σ) ks (kw.map (·.2)))
    (hb : Bnd C fd args kw σ fun ρ₀ σ₁ => bindsOk fd (ρ₀.map (·.1)) = true ∧ R ρ₀ σ₁)
    (h : ∀ ρ₀ σ₁ L s₂, R ρ₀ σ₁ → Nx C σ s σ₁ s₂ → Fm C σ₁ s₂.heap (fenv fd fa L) true ρ₀ → (∀ a x, s.heap.get? a = some x → a ∉ σ.S → ¬ Own (fenv fd fa L) a) →
      wpAny C.M (A.deeper (fenv fd fa L)) (execs body (fenv fd fa L)) (fun f s' => RR (.ok (.ret (match f with | .ret v => v | _ => .none))) s') (fun _ _ => False) s₂) :
    codeAny C.M A (.call (.ref fa) ⟨vs, (kw.map (·.1)).zip ks⟩) RR s := by
  obtain ⟨⟨ob, ho, hd⟩, hcd, hbody, hpl⟩ := F
  simp only [Bool.and_eq_true, beq_iff_eq, Bool.not_eq_true', List.isEmpty_iff] at hpl
  obtain ⟨⟨⟨⟨⟨hcl, hgl⟩, hbl⟩, hco⟩, hgen⟩, hk⟩ := hpl
  refine codeAny_call_function (by have := rm.depth; show A.depth < 1000; omega) (o.base _ _ ho) hd hco hgen hbody (hcd.keeps o.base) ?_
  refine wpAny_mono (hb _ s vs ks o r q _) ?_ fun _ _ x => x
  rintro binds s₁ ⟨ρ₀, σ₁, bs, ⟨hok, hx⟩, rfl, rb, n₁⟩
  simp only [bindsOk, Bool.and_eq_true, decide_eq_true_eq] at hok
  have hnm : ((ρ₀.map (·.1)).zip bs).map (·.1) = ρ₀.map (·.1) := zip_names (by have := rb.length; simpa using this)
  have hall : (((ρ₀.map (·.1)).zip bs).all fun y => fd.scope.names.lookup y.1 == some .local || fd.scope.names.lookup y.1 == some .cell) = true := by
    rw [List.all_eq_true]
    intro y hy
    exact List.all_eq_true.mp hok.1 y.1 (hnm ▸ List.mem_map_of_mem hy)
  rw [hcl]
  refine wpAny_newFunctionEnv_cells hk (kindsX hall _) ?_
  rintro env' rfl s₂ ic
  have icm := ic.toInCall
  obtain ⟨h₂, tk, e₂⟩ := icm.same
  have L0 : (newEnv fd.scope s₁.heap.objs.size fd.globals (cellsFrom (s₁.heap.objs.size + 1) fd.scope.names []) (fd.qualname ++ ".<locals>.") (some fa) fd.code none fd.builtins) = fenv fd fa s₁.heap.objs.size := rfl
  rw [L0] at ic icm ⊢
  have n₂ : Nx C σ₁ s₁ σ₁ s₂ := Nx.of_keeps n₁.ok icm.keep (by rw [e₂]) (by rw [e₂])
  have hL : (fenv fd fa s₁.heap.objs.size).locals = s₁.heap.objs.size := rfl
  have fm : Fm C σ₁ s₂.heap (fenv fd fa s₁.heap.objs.size) true ρ₀ := by
    refine ⟨⟨_, icm.ns, fun x d e => ?_⟩, hk, hgl, hbl, ?_, fun x c hc => ?_, fun x y c hx hy => ?_⟩
    · obtain ⟨v, hv, rv⟩ := zip_lookup rb e
      refine ⟨v, rv.next n₂, ?_⟩
      have hnd : (((ρ₀.map (·.1)).zip bs).map (·.1)).Nodup := by rw [hnm]; exact hok.2
      rcases kindsX hall (s₁.heap.objs.size + 1) _ hv with hx | ⟨hx, hs⟩
      · exact .inl ⟨hx, bindL_get hx _ _ hnd hv⟩
      · obtain ⟨c, hc⟩ := Option.isSome_iff_exists.mp hs
        refine .inr ⟨.inl hx, c, hc, ?_⟩
        have := ic.cell x c hc
        rwa [bindC_get (k := (fenv fd fa s₁.heap.objs.size).kindOf) (by show fd.scope.names.lookup x ≠ some .local; rw [hx]; intro z; cases z) _ _ hnd hv] at this
    · exact free_of_size n₁.ok (Nat.le_refl _)
    · have ab := ic.above x c (mem_lookup hc)
      have fr := free_of_size n₁.ok (Nat.le_of_lt ab)
      exact ⟨⟨_, ic.cell x c hc⟩, fun z => by rw [z] at ab; exact Nat.lt_irrefl _ ab, fr.2, fun _ => fr.1⟩
    · exact pairwise_eq ic.apart (mem_lookup hx) (mem_lookup hy)
  refine ⟨?_, codeAny_func (wpAny_mono (h ρ₀ σ₁ s₁.heap.objs.size s₂ hx (n₁.trans n₂) fm fun a x e hS ha => ?_) (fun _ _ x => x) fun _ _ x => x.elim)⟩
  · obtain ⟨mc, hn, hm⟩ := C.lim; exact ⟨mc, Ns.keep hn n₂.ok.base, hm⟩
  · have lt := Heap.lt_size (n₁.le a x e hS).1
    rcases ha with z | ⟨x, hc⟩
    · rw [z, hL] at lt; exact Nat.lt_irrefl _ lt
    · exact absurd (Nat.lt_trans lt (ic.above x a (mem_lookup hc))) (Nat.lt_irrefl _)

/-- the Headers object: its class, its dict's one entry, the list behind it -/
structure Tb (C : Cx) (Hc x l : Addr) : Prop where
  get : ∃ dx hsh t n, (x, instObj Hc dx) ∈ C.pins ∧ (dx, dictOf [⟨hsh, .str "_headers" t, .ref l⟩] n) ∈ C.pins
theorem Tb.inst {Hc x l : Addr} (T : Tb C Hc x l) {h : Heap} (o : Ok C σ h) : ∃ ox hsh t n, InstAt h x ox Hc (some (dictOf [⟨hsh, .str "_headers" t, .ref l⟩] n)) ∧ ∃ dx, ox = instObj Hc dx := by
  obtain ⟨dx, hsh, t, n, h1, h2⟩ := T.get
  exact ⟨_, hsh, t, n, ⟨o.pin _ h1, rfl, rfl, o.pin _ h2⟩, dx, rfl⟩

structure ClsOk (K : Frag) (Hc : Addr) : Prop where
  ga : findIn K (.ref Hc) "__getattribute__" = some (some (.builtin "object.__getattribute__"))
  gat : findIn K (.ref Hc) "__getattr__" = some none
  hdr : ∀ hsh t l n, findObj K Hc (some (dictOf [⟨hsh, .str "_headers" t, .ref l⟩] n)) "_headers" = some (.value (.ref l))

theorem gm_own {K : Frag} {Hc x l f : Addr} {name : Str} (X : K.In C.h₀) (T : Tb C Hc x l) (ok : ClsOk K Hc) (hf : findIn K (.ref Hc) name = some (some (.ref f))) (ht : typeIn K (.ref f) = some (.type "function"))
    (hn : (("_headers" : Str) == name) = false) : Gm C A (.raw (.ref x)) name (.ref f) σ := by
  constructor
  rintro s _ pl o ⟨⟩ E Q h
  obtain ⟨ox, hsh, t, n, I, _⟩ := T.inst o
  refine method_fn (X.keeps o.base) I ok.ga ok.gat hf ht ?_ h
  show (lookIn name (dictOf _ _)).map _ = _
  rw [lookIn_dict]
  have hk : Value.isStr (.str "_headers" t) name = false := by show (("_headers" : Str) == name) = false; exact hn
  simp only [getL, List.find?_cons, hk, List.find?_nil]
  simp [DictEntry.refKey]

theorem ev_headers {K : Frag} {Hc x l : Addr} {o : Expr} {pos : Pos} (X : K.In C.h₀) (T : Tb C Hc x l) (ok : ClsOk K Hc)
    (h : Ev C A env wr ρ σ o fun d σ₁ => d = .raw (.ref x) ∧ P (.raw (.ref l)) σ₁)
    (hb : attributeBase o "_headers" env (eval o env) = eval o env := by rfl) : Ev C A env wr ρ σ (.Attribute o "_headers" pos) P := by
  constructor
  intro s ok' f E
  show wpAny C.M A (do
    let ov ← attributeBase o "_headers" env (eval o env)
    standAt pos.atName
    let r ← holding [ov] (getAttr ov "_headers" true)
    letTemporaryGo o ov r
    pure r) _ E s
  rw [hb]
  refine wpAny_bind (wpAny_mono (h.run s ok' f E) ?_ fun _ _ x => x)
  rintro v s₁ ⟨_, σ₁, ⟨rfl, p⟩, r, n₁⟩
  cases r
  obtain ⟨ox, hsh, t, n, I, _⟩ := T.inst n₁.ok
  refine wpAny_bind (wpAny_standAt (wpAny_bind (wpAny_holding (get_value (X.keeps n₁.ok.base) I ok.ga (ok.hdr _ _ _ _) rfl ?_))))
  exact wpAny_bind (wpAny_letTemporaryGo (wpAny_pure ⟨_, _, p, .raw _, n₁.trans (nx_toks n₁.ok _)⟩))
end
end Mine
namespace Mine

noncomputable def updS (σ : Sto) (l : Addr) (vs : List Value) (ds : List D) : Sto := σ.map fun p => if p.1 = l then (l, vs, ds) else p
theorem updS_S {σ : Sto} {l : Addr} {vs : List Value} {ds : List D} : (updS σ l vs ds).S = σ.S := by
  unfold updS
  induction σ with
  | nil => rfl
  | cons p r ih =>
    show _ :: Sto.S _ = _ :: Sto.S _
    rw [ih]
    congr 1
    dsimp only
    split
    · rename_i h; exact h.symm
    · rfl
theorem mem_S {σ : Sto} {l : Addr} {vs : List Value} {ds : List D} (h : (l, vs, ds) ∈ σ) : l ∈ σ.S := List.mem_map.mpr ⟨_, h, rfl⟩

section
variable {C : Cx} {A : Around} {env : Env} {wr : Bool} {ρ : Rho} {σ : Sto} {E : Value → Shared → Prop} {s : Shared} {P : D → Sto → Prop}

theorem store_upd {l : Addr} {h h' : Heap} {vs : List Value} {ds : List D} {n : Nat} (o : Ok C σ h) (hin : l ∈ σ.S) (hb : Heap.SameBut l h h') (hl : h'.get? l = some (listOf vs.toArray n)) (r : RepL h (C.V σ) vs ds) :
    Ok C (updS σ l vs ds) h' ∧ Le h σ.S h' (updS σ l vs ds).S := by
  have hS := updS_S (σ := σ) (l := l) (vs := vs) (ds := ds)
  have hV : C.V (updS σ l vs ds) = C.V σ := by simp only [Cx.V, hS]
  have le : Le h σ.S h' σ.S := fun a x e n => ⟨(hb.2 a fun z => n (z ▸ hin)).trans e, n⟩
  obtain ⟨p₀, hp₀, e₀⟩ := List.mem_map.mp hin
  have frl := o.off p₀ hp₀
  rw [e₀] at frl
  refine ⟨⟨fun a x e => ?_, fun p hp => (hb.2 _ (frl.2.1 p hp)).trans (o.pin p hp), fun p hp => ?_, fun p hp => ?_, by rw [hS]; exact o.nd, fun a ha => ?_⟩, by rw [hS]; exact le⟩
  · exact (hb.2 a fun z => by subst z; rw [frl.1] at e; cases e).trans (o.base a x e)
  · obtain ⟨q, hq, e⟩ := List.mem_map.mp hp
    split at e
    · rw [← e]; exact frl
    · rw [← e]; exact o.off q hq
  · obtain ⟨q, hq, e⟩ := List.mem_map.mp hp
    rw [hV]
    split at e
    · rw [← e]; exact ⟨n, hl, r.mono le.v⟩
    · rename_i hne
      rw [← e]
      obtain ⟨k, e1, r1⟩ := o.at_ q hq
      exact ⟨k, (hb.2 _ hne).trans e1, r1.mono le.v⟩
  · exact (o.zs a ha).imp fun x e => (hb.2 a fun z => frl.2.2 (z ▸ ha)).trans e

theorem gm_append {l : Addr} {vs : List Value} {ds : List D} (hin : (l, vs, ds) ∈ σ) : Gm C A (.raw (.ref l)) "append" (.builtin "list.append") σ := by
  constructor
  rintro s _ pl o ⟨⟩ E Q h
  obtain ⟨n, e, _⟩ := o.at_ _ hin
  exact getMethod_builtin ⟨_, e, rfl⟩ PySem.F.plainAttrs_list PySem.F.slot_list_append PySem.F.type_list_append (fun a q => by cases q; exact ⟨_, e, rfl⟩) h
theorem ca_append {l : Addr} {vs : List Value} {ds : List D} {d : D} (hin : (l, vs, ds) ∈ σ) (hsz : ds.length ≤ sizeLine) (h : ∀ v, P .none (updS σ l (vs ++ [v]) (ds ++ [d]))) : Ca C A (.builtin "list.append") [.raw (.ref l), d] [] σ P := by
  refine ca_intro fun s us o r E => ?_
  obtain ⟨_, v, rfl, r1, r2⟩ := r.inv2
  cases r1
  obtain ⟨n, e, rl⟩ := o.at_ _ hin
  refine wpAny_list_append_plain (items := vs.toArray) ⟨n, e⟩ (fun h' pl hb => ?_) (by have := rl.length; simp at this; simp [this]; exact hsz)
  obtain ⟨n', e'⟩ := pl
  have e'' : h'.get? l = some (listOf (vs ++ [v]).toArray n') := by rw [e']; simp
  obtain ⟨o', le⟩ := store_upd o (mem_S hin) hb e'' (rl.append (.cons r2 .nil))
  exact ⟨_, _, h v, .none, o', le, rfl, rfl⟩
theorem ca_len_store {l : Addr} {vs : List Value} {ds : List D} (hin : (l, vs, ds) ∈ σ) (hsz : ds.length ≤ sizeLine) (h : P (.int ds.length) σ) : Ca C A (.builtin "len") [.raw (.ref l)] [] σ P := by
  refine ca_intro fun s us o r E => ?_
  obtain ⟨_, rfl, r1⟩ := r.inv1
  cases r1
  obtain ⟨n, e, rl⟩ := o.at_ _ hin
  have e2 : vs.length = ds.length := rl.length
  refine len_list (items := vs.toArray) ⟨_, e, rfl, n, rfl⟩ (by have : sizeLine = 16777216 := rfl; simp; omega) ⟨_, _, h, ?_, nx_toks o _⟩
  have : ((vs.toArray.size : Nat) : Int) = (ds.length : Int) := by simp [e2]
  rw [this]; exact .int _ _

-- is, type
theorem op_is_raw {a b : Value} (hp : plainIs a b = true) (h : P (.bool (a == b)) σ) : Op2 C A (compareOp .Is) (.raw a) (.raw b) σ P := by
  constructor; rintro s _ _ o ⟨⟩ ⟨⟩ E; exact wpAny_is_plain hp ⟨_, _, h, .bool _, .refl o⟩
theorem op_isnot_raw {a b : Value} (hp : plainIs a b = true) (h : P (.bool (!(a == b))) σ) : Op2 C A (compareOp .IsNot) (.raw a) (.raw b) σ P := by
  constructor; rintro s _ _ o ⟨⟩ ⟨⟩ E; exact wpAny_isNot_plain hp ⟨_, _, h, .bool _, .refl o⟩
theorem op_isnot_none (h : P (.bool false) σ) : Op2 C A (compareOp .IsNot) .none .none σ P := by
  constructor; rintro s _ _ o ⟨⟩ ⟨⟩ E; exact wpAny_isNot_self rfl ⟨_, _, h, .bool _, .refl o⟩
theorem op_is_none (h : P (.bool true) σ) : Op2 C A (compareOp .Is) .none .none σ P := by
  constructor; rintro s _ _ o ⟨⟩ ⟨⟩ E; exact wpAny_is_self rfl ⟨_, _, h, .bool _, .refl o⟩
theorem op_is_str {x : Str} (h : P (.bool false) σ) : Op2 C A (compareOp .Is) (.str x) .none σ P := by
  constructor; rintro s _ _ o ⟨⟩ ⟨⟩ E; exact wpAny_is_other rfl (by intro z; cases z) ⟨_, _, h, .bool _, .refl o⟩
theorem ca_type_str {x : Str} (h : P (.raw (.type "str")) σ) : Ca C A (.type "type") [.str x] [] σ P := by
  refine ca_intro fun s us o r E => ?_
  obtain ⟨_, rfl, r1⟩ := r.inv1
  cases r1
  exact call_type_of (typeIs_str _ _ _) (by decide) ⟨_, _, h, .raw _, .refl o⟩
end
end Mine
namespace Mine

section
variable {C : Cx} {A : Around} {env : Env} {wr : Bool} {ρ : Rho} {σ : Sto} {E : Value → Shared → Prop} {s : Shared} {P : D → Sto → Prop}

theorem Rm.in1 {n : Nat} {A : Around} (r : Rm (n + 1) A) : Rm n A.in1 := ⟨r.1, by have := r.2; show A.depth + n < 600; omega, by have := r.3; show A.units + 1 + 12 * n < 8000; omega⟩

theorem ca_len_own {K : Frag} {Hc x l f : Addr} (X : K.In C.h₀) (T : Tb C Hc x l) (hs : findIn K (.ref Hc) "__len__" = some (some (.ref f))) (hf : typeIn K (.ref f) = some (.type "function"))
    (h : Ca C A.in1 (.ref f) [.raw (.ref x)] [] σ fun d σ' => ∃ n : Int, d = .int n ∧ (0 ≤ n ∧ n < 2 ^ 63) ∧ P (.int n) σ') : Ca C A (.builtin "len") [.raw (.ref x)] [] σ P := by
  refine ca_intro fun s vs ok r E => ?_
  obtain ⟨_, rfl, r1⟩ := r.inv1
  cases r1
  obtain ⟨ox, hsh, t, n, I, _⟩ := T.inst ok
  have X' := X.keeps ok.base
  refine Calls.call_function_entry kind_len plain_len entry_len (args_len1 _) ?_
  unfold Builtin.«len»
  refine wpAny_bind (m := oneArg "len" _) (wpAny_pure ?_)
  refine wpAny_bind (m := callSpecial? (.ref x) (Str.ofString "__len__")) (special_fn X' I hs hf (wpAny_mono (h.run s [.ref x] [] ok (.cons (.raw _) .nil) .nil _) ?_ fun _ _ y => y))
  rintro u s₁ ⟨_, σ₁, ⟨m, rfl, ⟨h0, h1⟩, p⟩, r₁, n₁⟩
  cases r₁
  refine wpAny_bind (wpAny_holding (wpAny_pure ?_))
  refine wpAny_bind (wpAny_letGo ?_)
  show wpAny _ _ (if m < 0 then _ else _) _ _ _
  rw [if_neg (by omega)]
  show wpAny _ _ (if m ≥ 2 ^ 63 then _ else _) _ _ _
  rw [if_neg (by omega)]
  exact wpAny_bind (wpAny_mkInt (wpAny_pure ⟨_, rfl, _, _, p, .int _ _, n₁.trans (nx_toks n₁.ok _)⟩))
end

-- the regular expressions: a search that finds nothing
theorem plainAttrs_re : PlainAttrs "re.Pattern" :=
  ⟨⟨"object.__getattribute__", by rw [typeLookup_type, builtinLookup_eq_fast]; kernel_rfl, by decide +kernel⟩, by rw [typeLookup_type, builtinLookup_eq_fast]; kernel_rfl⟩
theorem slot_re_search : Slot "re.Pattern" "search" "re.Pattern.search" :=
  .of (owner := "re.Pattern") (n := "search") (by rw [typeLookup_type, builtinLookup_eq_fast]; kernel_rfl) (by decide +kernel) (by decide +kernel) (by decide +kernel)
    (by first | exact .inl (by decide +kernel) | exact .inr (by decide +kernel)) (by rw [isSubtype_type]; kernel_rfl)
theorem entry_re_search : entryFor table "re.Pattern.search" = some Builtin.«re.Pattern.search» := entryFor_of_tree (by kernel_rfl)
theorem args_re_search (a b : Value) : argsOk "re.Pattern.search" ⟨[a, b], []⟩ := by unfold argsOk; kernel_rfl
theorem type_re_search : typeOf (.builtin "re.Pattern.search") = pure (.type "method_descriptor") := by show builtinType _ = _; rw [builtinType_eq_fast]; kernel_rfl

/-- a text without control signs -/
noncomputable def clean (x : Str) : Prop := ∀ c ∈ x.cps.toList, 32 ≤ c ∧ c ≠ 127
theorem re_named (v : Value) : Builtin.Re.reNamed "re.Pattern.search" "search" ["string", "pos", "endpos"] 1 [v] [] = pure [some v, none, none] := by kernel_rfl

theorem admitted_none {m : Sre.M} (h : ∀ i, i < m.lim → ∀ seen, ∃ seen', Sre.inSet m.code (m.text.getD i 0) m.code.size 5 true seen = .ok (false, seen')) : ∀ (fuel i : Nat) (seen : Sre.Seen), ∃ seen', m.admitted fuel i seen = .ok (none, seen')
  | 0, i, seen => ⟨seen, rfl⟩
  | fuel + 1, i, seen => by
    unfold Sre.M.admitted
    by_cases hi : i ≥ m.lim
    · rw [if_pos hi]; exact ⟨_, rfl⟩
    · rw [if_neg hi]
      obtain ⟨seen', e⟩ := h i (by omega) seen
      rw [e]
      exact admitted_none h fuel (i + 1) seen'

/-- a code that names its first signs, and a text that has none of them -/
structure Misses (code text : Array Nat) : Prop where
  set : ∀ i, i < text.size → ∀ seen, ∃ seen', Sre.inSet code (text.getD i 0) code.size 5 true seen = .ok (false, seen')
  first : ((match Sre.ops[code.getD 0 0]? with | some .INFO => true | _ => false) && code.getD 2 0 == 4) = true
theorem attempt_fails {m : Sre.M} {i : Nat} (hc : m.hasFirstSet = true) (h : ∀ i, i < m.lim → ∀ seen, ∃ seen', Sre.inSet m.code (m.text.getD i 0) m.code.size 5 true seen = .ok (false, seen')) (hf : m.frames = []) (ho : m.outcome = none) :
    (m.attemptFrom i true).answer = some false ∧ (m.attemptFrom i true).frames = [] ∧ (m.attemptFrom i true).outcome = none := by
  unfold Sre.M.attemptFrom
  rw [hc]
  obtain ⟨seen', e⟩ := admitted_none h (m.lim + 1 - i) i m.seen
  simp only [Bool.not_true, Bool.false_eq_true, if_false, e]
  exact ⟨rfl, hf, ho⟩
theorem search_fails {code text : Array Nat} {groups : Nat} (M : Misses code text) : (Sre.forSearch code text groups 0 text.size false).answer = some false ∧ (Sre.forSearch code text groups 0 text.size false).frames = [] ∧ (Sre.forSearch code text groups 0 text.size false).outcome = none := by
  unfold Sre.forSearch
  dsimp only
  split
  · exact ⟨rfl, rfl, rfl⟩
  · exact attempt_fails M.first M.set rfl rfl
theorem runFor_fails {m : Sre.M} (ha : m.answer = some false) (hf : m.frames = []) (ho : m.outcome = none) : (m.runFor 4).outcome = some .failed := by
  have h1 : m.step = { m with outcome := some .failed } := by
    unfold Sre.M.step
    simp only [ho, ha, hf, Option.isSome_none, Bool.false_eq_true, if_false]
  unfold Sre.M.runFor
  simp only [ho, Option.isSome_none, Bool.false_eq_true, if_false, h1]
  unfold Sre.M.runFor
  simp only [Option.isSome_some, if_true]
theorem wp_reRun {M : Model} {A : Around} {E : Value → Shared → Prop} {s : Shared} {m : Sre.M} {Q : Option Sre.M → Shared → Prop} (hm : (m.runFor 4).outcome = some .failed) (h : Q none s) : wpAny M A (Builtin.Re.reRunToEnd m) Q E s := by
  unfold Builtin.Re.reRunToEnd
  have hd : Builtin.Re.reDrive (2 ^ 64) m = pure (m.runFor 4) := by
    rw [show (2 : Nat) ^ 64 = (2 ^ 64 - 1) + 1 from by decide]
    unfold Builtin.Re.reDrive
    show (if (m.runFor 4).outcome.isSome = true then pure (m.runFor 4) else _) = _
    rw [hm]; rfl
  rw [hd]
  refine wpAny_bind (wpAny_pure (wpAny_bind ?_))
  refine wpAny_forIn_list _ (fun _ _ s' => s' = s) _ ?_ ?_ _ _ rfl
  · rintro x rest b s' rfl
    split
    · exact wpAny_bind (wpAny_rule (wpAny_pure rfl))
    · exact wpAny_pure rfl
  · rintro b s' rfl
    rw [hm]
    exact wpAny_pure h

section
variable {C : Cx} {A : Around} {σ : Sto} {P : D → Sto → Prop}
theorem gm_search {a : Addr} {o : Obj} (ho : C.h₀.get? a = some o) (hc : o.cls = .type "re.Pattern") (hd : o.dict = none) : Gm C A (.raw (.ref a)) "search" (.builtin "re.Pattern.search") σ := by
  constructor
  rintro s _ pl ok ⟨⟩ E Q h
  exact getMethod_builtin ⟨_, ok.base _ _ ho, hc⟩ plainAttrs_re slot_re_search type_re_search (fun b q => by cases q; exact ⟨_, ok.base _ _ ho, hd⟩) h
theorem ca_search {a b : Addr} {fs items : Array Value} {n : Nat} {x : Str} (ho : C.h₀.get? a = some { cls := .type "re.Pattern", data := .fields fs }) (h5 : fs.getD 5 .none = .ref b) (h6 : Builtin.Re.reRawNat (fs.getD 6 .none) = 0)
    (hb : C.h₀.get? b = some { cls := .type "tuple", data := .seq items n }) (hx : Misses ((items.map Builtin.Re.reRawOf).map (·.toNat)) x.cps) (hsz : x.length < 2 ^ 62)
    (h : P .none σ) : Ca C A (.builtin "re.Pattern.search") [.raw (.ref a), .str x] [] σ P := by
  refine ca_intro fun s vs ok r E => ?_
  obtain ⟨_, _, rfl, r1, r2⟩ := r.inv2
  cases r1
  cases r2 with
  | str _ t =>
  refine wpAny_call_entry slot_re_search ⟨_, ok.base _ _ ho, rfl⟩ entry_re_search ?_ (args_re_search _ _)
  unfold Builtin.«re.Pattern.search» Builtin.Re.reTarget
  refine wpAny_bind ?_
  dsimp only
  rw [re_named]
  refine wpAny_bind (wpAny_pure ?_)
  dsimp only
  refine wpAny_bind (wpAny_pure (wpAny_bind (wpAny_pure ?_)))
  refine wpAny_bind (wpAny_fieldsOf (ok.base _ _ ho) rfl ?_)
  refine wpAny_bind (m := Builtin.Re.reTextOf (.str x t)) (wpAny_of_eq (a := (x.cps, 0)) rfl ?_)
  rw [h6, h5]
  simp only [show ((0 : Nat) == 1) = false from rfl, Bool.and_false, Bool.false_and, Bool.false_eq_true, if_false]
  refine wpAny_bind (m := Builtin.Re.reNoCollectionInside (.str x t) 0) (wpAny_of_eq (a := ()) rfl ?_)
  refine wpAny_bind (m := Builtin.Re.reRawItems (.ref b)) ?_
  unfold Builtin.Re.reRawItems
  refine wpAny_bind (wpAny_seqItems (ok.base _ _ hb) rfl (wpAny_pure (wpAny_pure ?_)))
  unfold Builtin.Re.reAnswer
  have e1 : min (Int.toNat 0) x.cps.size = 0 := by simp
  have e2 : min ((2 : Int) ^ 63 - 1).toNat x.cps.size = x.cps.size := by
    have : x.cps.size < 2 ^ 62 := hsz
    omega
  simp only [Option.getD_some, e1, e2]
  obtain ⟨a1, a2, a3⟩ := search_fails (groups := Builtin.Re.reRawNat (fs.getD 2 Value.none)) hx
  refine wpAny_bind (wp_reRun (runFor_fails a1 a2 a3) ?_)
  exact wpAny_pure ⟨_, rfl, _, _, h, .none, .refl ok⟩
end
end Mine
namespace Mine

/-- more objects that stay as they are -/
noncomputable def Cx.pin (C : Cx) (ps : List (Addr × Obj)) : Cx := { C with pins := ps ++ C.pins }

section
variable {C : Cx} {A : Around} {env : Env} {wr : Bool} {ρ : Rho} {σ : Sto} {E : Value → Shared → Prop} {s : Shared} {P : D → Sto → Prop}

/-- an empty list that is to be changed -/
theorem ev_nil_mut {pos : Pos} (h : ∀ l, l ∉ σ.S → P (.raw (.ref l)) ((l, [], []) :: σ)) : Ev C A env wr ρ σ (.List [] pos) P := by
  constructor
  intro s o f E
  refine List_ (spliced_nil (wpAny_newList ?_ (by decide)))
  obtain ⟨fr, nS⟩ := free_of_size o (Nat.le_refl _)
  have e := Heap.get?_push_size s.heap (o := { cls := .type "list", data := .seq ([] : List Value).toArray }) rfl
  have k : ∀ a x, s.heap.get? a = some x → (s.heap.push { cls := .type "list", data := .seq ([] : List Value).toArray }).get? a = some x := fun a x q => Heap.get?_push_of_some _ q
  have le : Le s.heap σ.S (s.heap.push { cls := .type "list", data := .seq ([] : List Value).toArray }) (s.heap.objs.size :: σ.S) := fun a x q n => ⟨k a x q, fun hm => (List.mem_cons.mp hm).elim (fun z => by rw [z] at q; exact absurd (Heap.lt_size q) (Nat.lt_irrefl _)) n⟩
  have sq : Seqs s.heap (C.V σ) (s.heap.push { cls := .type "list", data := .seq ([] : List Value).toArray }) (C.V ((s.heap.objs.size, [], []) :: σ)) := Le.v (σ' := (s.heap.objs.size, [], []) :: σ) le
  refine ⟨_, _, h s.heap.objs.size nS, .raw _, ⟨⟨fun a x q => k a x (o.base a x q), fun p hp => k _ _ (o.pin p hp), fun p hp => ?_, fun p hp => ?_, List.nodup_cons.mpr ⟨nS, o.nd⟩, fun a ha => (o.zs a ha).imp fun x q => k _ _ q⟩, le, rfl, rfl⟩⟩
  · rcases List.mem_cons.mp hp with rfl | hp
    · exact fr
    · exact o.off p hp
  · rcases List.mem_cons.mp hp with rfl | hp
    · exact ⟨_, e, .nil⟩
    · obtain ⟨n, q, r⟩ := o.at_ p hp
      exact ⟨n, k _ _ q, r.mono sq⟩
theorem ca_type_store {l : Addr} {vs : List Value} {ds : List D} (hin : (l, vs, ds) ∈ σ) (h : P (.raw (.type "list")) σ) : Ca C A (.type "type") [.raw (.ref l)] [] σ P := by
  refine ca_intro fun s us o r E => ?_
  obtain ⟨_, rfl, r1⟩ := r.inv1
  cases r1
  obtain ⟨n, e, _⟩ := o.at_ _ hin
  exact call_type_of (Tx := "list") ⟨_, e, rfl⟩ (by decide) ⟨_, _, h, .raw _, .refl o⟩
/-- the dict entry under which the list lies -/
abbrev hdDict (hsh : Int) (t : Tok) (l : Addr) (n : Nat) : Obj := dictOf [⟨hsh, .str "_headers" t, .ref l⟩] n

theorem setattr_raw {K : Frag} {Hc x dx l : Addr} {Q : Unit → Shared → Prop} (X : K.In s.heap) (I : InstAt s.heap x (instObj Hc dx) Hc (some (dictOf [] 0))) (hs : findIn K (.ref Hc) "__setattr__" = some (some (.builtin "object.__setattr__")))
    (hp : plainOver K Hc = true) (ht : takerIn K Hc "_headers" = some none) (hh : (clsIn K Hc).any (·.hasDict) = true) {prog : Program} {w : World}
    (h : ∀ h' hsh t n tk, h'.get? dx = some (hdDict hsh t l n) → Heap.SameBut dx s.heap h' → Q () { s with heap := h', toks := tk }) : wpAny (model prog w) A (setAttr (.ref x) "_headers" (.ref l)) Q E s := by
  refine set_plain X I hs (osa_open (s := { s with toks := s.toks + 1 }) X I hp ht fun b => ?_)
  obtain ⟨cd, hc, hd'⟩ := any_some hh
  have hx := I.at_
  have hd : s.heap.get? dx = some (dictOf [] 0) := I.dict
  refine wpAny_bind (wpAny_pure (wpAny_bind (wpAny_bind (wpAny_loadPart hx (wpAny_bind (Looks.here (s := { s with toks := s.toks + 1 }) (looks_clsIn X hc) ?_))))))
  rw [hd']
  refine wpAny_pure (a := some dx) (wpAny_bind (wpAny_pure (wpAny_bind ?_)))
  unfold nsSet
  refine wpAny_bind (wpAny_bind (wpAny_askSetting (wpAny_pure (wpAny_bind (wpAny_mkText (wpAny_bind (wpAny_loadPart hd ?_)))))))
  dsimp only
  rw [aRefKeyMayBeTheName_at]
  have hu : ∀ hsh tk, (s.heap.update dx (Obj.putName "_headers" hsh (.str "_headers" tk) (.ref l))).get? dx = some (hdDict hsh tk l 1) := fun hsh tk => by
    rw [Heap.get?_update_self _ hd (by rw [putName_dict]; rfl), putName_dict]; rfl
  rw [if_neg (by simp)]
  refine wpAny_updatePart (s := { s with toks := s.toks + 1 + 1 }) hd ?_
  refine wpAny_bind (wpAny_lookBehind (hu _ _) (pastItsLine_dict (by rw [List.size_toArray, sizeLine_eq]; simp)) ?_)
  exact wpAny_pure (h _ _ _ _ _ (hu _ _) (Heap.SameBut.update ..))

theorem pin_ok {x dx : Addr} {ob od : Obj} {h h' : Heap} (o : Ok C σ h) (k : ∀ a q, h.get? a = some q → h'.get? a = some q) (hx : h.get? x = none) (hd : h.get? dx = none) (hx' : h'.get? x = some ob) (hd' : h'.get? dx = some od) :
    Ok (C.pin [(x, ob), (dx, od)]) σ h' := by
  have o' := o.keeps k
  refine ⟨o'.base, fun p hp => ?_, fun p hp => ?_, o'.at_, o'.nd, o'.zs⟩
  · rcases List.mem_append.mp hp with hp | hp
    · simp only [List.mem_cons, List.not_mem_nil, or_false] at hp
      rcases hp with rfl | rfl
      · exact hx'
      · exact hd'
    · exact o'.pin p hp
  · have fr := o.off p hp
    obtain ⟨n, e, _⟩ := o.at_ p hp
    refine ⟨fr.1, fun q hq => ?_, fr.2.2⟩
    rcases List.mem_append.mp hq with hq | hq
    · simp only [List.mem_cons, List.not_mem_nil, or_false] at hq
      rcases hq with rfl | rfl
      · intro z; rw [← z, hx] at e; cases e
      · intro z; rw [← z, hd] at e; cases e
    · exact fr.2.1 q hq
theorem unpin_ok {ps : List (Addr × Obj)} {h : Heap} (o : Ok (C.pin ps) σ h) : Ok C σ h :=
  ⟨o.base, fun p hp => o.pin p (List.mem_append_right _ hp), fun p hp => ⟨(o.off p hp).1, fun q hq => (o.off p hp).2.1 q (List.mem_append_right _ hq), (o.off p hp).2.2⟩, o.at_, o.nd, o.zs⟩
theorem unpin_fm {ps : List (Addr × Obj)} {h : Heap} (f : Fm (C.pin ps) σ h env wr ρ) : Fm C σ h env wr ρ :=
  ⟨f.has, f.kind, f.glob, f.blt, ⟨⟨f.offL.1.1, fun q hq => f.offL.1.2.1 q (List.mem_append_right _ hq), f.offL.1.2.2⟩, f.offL.2⟩, fun x c hc => by
    obtain ⟨a, b, c', d⟩ := f.cells x c hc
    exact ⟨a, b, c', fun w => ⟨(d w).1, fun q hq => (d w).2.1 q (List.mem_append_right _ hq), (d w).2.2⟩⟩, f.apart⟩
theorem pin_fm {x dx : Addr} {ob od : Obj} {h : Heap} (f : Fm C σ h env wr ρ) (nx : ¬ Own env x) (nd : ¬ Own env dx) : Fm (C.pin [(x, ob), (dx, od)]) σ h env wr ρ := by
  have fr : ∀ a, C.Free a → a ≠ x → a ≠ dx → (C.pin [(x, ob), (dx, od)]).Free a := fun a h1 h2 h3 => ⟨h1.1, fun q hq => by
    rcases List.mem_append.mp hq with hq | hq
    · simp only [List.mem_cons, List.not_mem_nil, or_false] at hq
      rcases hq with rfl | rfl
      · exact Ne.symm h2
      · exact Ne.symm h3
    · exact h1.2.1 q hq, h1.2.2⟩
  refine ⟨f.has, f.kind, f.glob, f.blt, ⟨fr _ f.offL.1 (fun z => nx (.inl z.symm)) (fun z => nd (.inl z.symm)), f.offL.2⟩, fun y c hc => ?_, f.apart⟩
  obtain ⟨a, b, c', d⟩ := f.cells y c hc
  exact ⟨a, b, c', fun w => fr _ (d w) (fun z => nx (.inr ⟨y, z ▸ hc⟩)) fun z => nd (.inr ⟨y, z ▸ hc⟩)⟩

/-- t = Headers(): from here on the object is one of the pinned objects and its list lies in the store -/
theorem ex_table {K : Frag} {Hc fI : Addr} {fd : FuncData} {s1 s2 s4 : Stmt} {p1 p2 p3 p4 : Pos} {t hn : Str} {pt p pos pos2 : Pos} {rest : List Stmt} {P : Fl → Rho → Sto → Prop} {n : Nat} (rm : Rm (n + 3) A) (X : K.In C.h₀)
    (hg : C.mg hn = some (.ref Hc)) (hkn : env.kindOf hn = some .globalImplicit) (hdb : (hn == ("__debug__" : Str)) = false) (hst : CanSt env wr t) (hsw : swapsWith (.Call (.Name hn p) [] [] pos) (some (.Name t pt)) pos2.line env = pure false)
    (hkp : keepIn K (.ref Hc) = true) (hm : makesIn K Hc = true) (hi : findIn K (.ref Hc) "__init__" = some (some (.ref fI))) (hf : typeIn K (.ref fI) = some (.type "function"))
    (F : FnAt C fI fd [s1, s2, .Assign [.Attribute (.Name "self" p1) "_headers" p2] (.Name "headers" p3) p4, s4])
    (hb : ∀ C' : Cx, ∀ (a : D) (σ : Sto) (R : Rho → Sto → Prop), C'.h₀ = C.h₀ → R [("self", a), ("headers", .none)] σ → Bnd C' fd [a] [] σ R) (hbk : bindsOk fd ["self", "headers"] = true)
    (hs : findIn K (.ref Hc) "__setattr__" = some (some (.builtin "object.__setattr__"))) (hp : plainOver K Hc = true) (ht : takerIn K Hc "_headers" = some none) (hh : (clsIn K Hc).any (·.hasDict) = true)
    (hsw3 : ∀ L, swapsWith (.Name "headers" p3) (some (.Attribute (.Name "self" p1) "_headers" p2)) p4.line (fenv fd fI L) = pure false)
    (h12 : ∀ (C1 : Cx) (A1 : Around) (L x : Addr), C1.h₀ = C.h₀ → C1.mg = C.mg → C1.w = C.w → Rm n A1 → Ex1 C1 A1 (fenv fd fI L) true [("self", .raw (.ref x)), ("headers", .none)] σ s1 fun fl ρ' σ' => fl = .nx ∧
      Ex1 C1 A1 (fenv fd fI L) true ρ' σ' s2 fun fl ρ'' σ'' => fl = .nx ∧ ∃ l, ρ''.lookup ("self" : Str) = some (.raw (.ref x)) ∧ ρ''.lookup ("headers" : Str) = some (.raw (.ref l)) ∧ σ'' = (l, [], []) :: σ)
    (h4 : ∀ (C2 : Cx) (A1 : Around) (L l : Addr) (ρ'' : Rho), C2.h₀ = C.h₀ → C2.mg = C.mg → C2.w = C.w → Rm n A1 → ρ''.lookup ("headers" : Str) = some (.raw (.ref l)) → Ex1 C2 A1 (fenv fd fI L) true ρ'' ((l, [], []) :: σ) s4 fun fl _ σ'' => fl = .nx ∧ σ'' = (l, [], []) :: σ)
    (h : ∀ ps x l, Tb (C.pin ps) Hc x l → Ex (C.pin ps) A env wr (setR ρ t (.raw (.ref x))) ((l, [], []) :: σ) rest P) :
    Ex C A env wr ρ σ (.Assign [.Name t pt] (.Call (.Name hn p) [] [] pos) pos2 :: rest) P := by
  constructor
  intro s o f E
  refine wpAny_execs_cons (wpAny_Assign_Name (wpAny_Call_Name_kw (wpAny_mono ((ev_global (A := A) (wr := wr) (ρ := ρ) (σ := σ) (P := fun d σ₁ => d = .raw (.ref Hc) ∧ σ = σ₁) hg ⟨rfl, rfl⟩ hkn hdb).run s o f E) ?_ fun _ _ x => x)) hsw)
  rintro _ s₁ ⟨_, _, ⟨rfl, rfl⟩, r₁, n₁⟩
  cases r₁
  have f₁ := f.next n₁
  have X₁ := X.keeps n₁.ok.base
  refine callWith_K0 X₁ hkp (wpAny_call ?_)
  obtain ⟨h₁, g₁, d₁, tk₁, os₁⟩ := s₁
  dsimp only at *
  refine make_core (makes_of X₁ hm) (looks_findIn X₁ hi) (fun self => bind_fn X₁ self hf) (.inl rfl) ?_
  have kx : ∀ a q, h₁.get? a = some q → ((h₁.push emptyDict).push (instObj Hc h₁.objs.size)).get? a = some q := fun a q e => Heap.get?_push_of_some _ (Heap.get?_push_of_some _ e)
  have ex : ((h₁.push emptyDict).push (instObj Hc h₁.objs.size)).get? (h₁.objs.size + 1) = some (instObj Hc h₁.objs.size) := by
    have := Heap.get?_push_size (h₁.push emptyDict) (o := instObj Hc h₁.objs.size) rfl
    rwa [Heap.size_push] at this
  have edx : ((h₁.push emptyDict).push (instObj Hc h₁.objs.size)).get? h₁.objs.size = some (dictOf [] 0) := Heap.get?_push_of_some _ (Heap.get?_push_size _ rfl)
  have nx : h₁.get? (h₁.objs.size + 1) = none := by
    cases e : h₁.get? (h₁.objs.size + 1) with
    | none => rfl
    | some q => exact absurd (Heap.lt_size e) (Nat.not_lt.mpr (Nat.le_succ _))
  have ndx : h₁.get? h₁.objs.size = none := none_at_size
  have o' : Ok (C.pin [(h₁.objs.size + 1, instObj Hc h₁.objs.size), (h₁.objs.size, dictOf [] 0)]) σ ((h₁.push emptyDict).push (instObj Hc h₁.objs.size)) := pin_ok n₁.ok kx nx ndx ex edx
  have hxd : h₁.objs.size + 1 ≠ h₁.objs.size := by omega
  have rmU : Rm n ((A.under (.builtin "type.__call__" ⟨.ref Hc :: [], []⟩)).deeper (fenv fd fI 0)) ∧ Rm (n + 1) (A.under (.builtin "type.__call__" ⟨.ref Hc :: [], []⟩)) := by
    have h1 := rm.depth
    have h2 := rm.units
    have e1 : (Code.builtin "type.__call__" ⟨.ref Hc :: [], []⟩).weight = 1 := rfl
    have e2 : (Code.builtin "type.__call__" ⟨.ref Hc :: [], []⟩).cUnits = 1 := rfl
    have q : Rm (n + 1) (A.under (.builtin "type.__call__" ⟨.ref Hc :: [], []⟩)) := ⟨rm.handled, by show A.depth + _ + (n + 1) < 600; rw [e1]; omega, by show A.units + _ + 12 * (n + 1) < 8000; rw [e2]; omega⟩
    exact ⟨q.deeper _, q⟩
  have rmD : ∀ L, Rm n ((A.under (.builtin "type.__call__" ⟨.ref Hc :: [], []⟩)).deeper (fenv fd fI L)) := fun L => rmU.2.deeper _
  refine fun_entry (C := C.pin [(h₁.objs.size + 1, instObj Hc h₁.objs.size), (h₁.objs.size, dictOf [] 0)]) (σ := σ) (args := [.raw (.ref (h₁.objs.size + 1))]) (kw := []) (vs := [.ref (h₁.objs.size + 1)]) (ks := [])
    (R := fun ρ₀ σ₁ => ρ₀ = ([("self", .raw (.ref (h₁.objs.size + 1))), ("headers", .none)] : Rho) ∧ σ = σ₁) rmU.2 ⟨F.get, F.code, F.body, F.plain⟩ o' (.cons (.raw _) .nil) .nil (hb _ _ _ _ rfl ⟨hbk, rfl, rfl⟩) ?_
  rintro _ _ L s₂ ⟨rfl, rfl⟩ n₂ fm₂ own₂
  -- the first two statements
  refine wpAny_execs_cons (wpAny_mono ((h12 (C.pin [(h₁.objs.size + 1, instObj Hc h₁.objs.size), (h₁.objs.size, dictOf [] 0)]) _ L _ rfl rfl rfl (rmD L)).run s₂ n₂.ok fm₂ _) ?_ fun _ _ q => q)
  rintro fl s₃ ⟨l₃, ρ₃, σ₃, ⟨rfl, e2⟩, rf, nz₃, fm₃⟩
  cases rf
  refine wpAny_execs_cons (wpAny_mono (e2.run s₃ nz₃.ok fm₃ _) ?_ fun _ _ q => q)
  rintro fl s₄ ⟨l₄, ρ₄, _, ⟨rfl, l, eself, ehd, rfl⟩, rf, nz₄, fm₄⟩
  cases rf
  have nz := nz₃.trans nz₄
  -- the store of the attribute
  refine wpAny_execs_cons (plainObj_wpAny_Assign_Attribute ?_ (hsw3 L))
  refine wpAny_mono ((ev_var (A := (A.under (.builtin "type.__call__" ⟨.ref Hc :: [], []⟩)).deeper (fenv fd fI L)) (wr := true) (P := fun d σ' => d = .raw (.ref l) ∧ σ' = (l, [], []) :: σ) ehd ⟨rfl, rfl⟩).run s₄ nz₄.ok fm₄ _) ?_ fun _ _ q => q
  rintro _ s₅ ⟨_, _, ⟨rfl, rfl⟩, r₅, n₅⟩
  cases r₅
  refine wpAny_mono ((ev_var (A := (A.under (.builtin "type.__call__" ⟨.ref Hc :: [], []⟩)).deeper (fenv fd fI L)) (wr := true) (P := fun d σ' => d = .raw (.ref (h₁.objs.size + 1)) ∧ σ' = (l, [], []) :: σ) eself ⟨rfl, rfl⟩).run s₅ n₅.ok (fm₄.next n₅) _) ?_ fun _ _ q => q
  rintro _ s₆ ⟨_, _, ⟨rfl, rfl⟩, r₆, n₆⟩
  cases r₆
  have fm₆ := (fm₄.next n₅).next n₆
  have nz₆ := (nz.trans (n₅.nz fm₄)).trans (n₆.nz (fm₄.next n₅))
  have o₆ := n₆.ok
  have I₆ : InstAt s₆.heap (h₁.objs.size + 1) (instObj Hc h₁.objs.size) Hc (some (dictOf [] 0)) := ⟨o₆.pin (h₁.objs.size + 1, instObj Hc h₁.objs.size) (by simp [Cx.pin]), rfl, rfl, o₆.pin (h₁.objs.size, dictOf [] 0) (by simp [Cx.pin])⟩
  refine setattr_raw (X.keeps o₆.base) I₆ hs hp ht hh fun h₇ hsh t₇ n₇ tk₇ e₇ hb₇ => ?_
  -- the objects as they stand now
  have frdx : C.Free h₁.objs.size := (free_of_none n₁.ok ndx).1
  have ed₆ : s₆.heap.get? h₁.objs.size = some (dictOf [] 0) := I₆.dict
  have nfdx : ∀ q, s₆.heap.get? h₁.objs.size = some q → ¬ Frz q := fun q e z => by
    rw [ed₆] at e; cases e
    rcases z with ⟨_, _, z⟩ | ⟨⟨_, z⟩, _⟩ <;> cases z
  have dxS : h₁.objs.size ∉ Sto.S ((l, [], []) :: σ) := fun hm => by
    obtain ⟨q, hq, e⟩ := List.mem_map.mp hm
    exact (o₆.off q hq).2.1 (h₁.objs.size, dictOf [] 0) (by simp [Cx.pin]) e.symm
  have ownd : ¬ Own (fenv fd fI L) h₁.objs.size := own₂ _ _ edx fun hm => by
    obtain ⟨q, hq, e⟩ := List.mem_map.mp hm
    exact (o'.off q hq).2.1 (h₁.objs.size, dictOf [] 0) (by simp [Cx.pin]) e.symm
  obtain ⟨oC₇, sq₇⟩ := upd_keep (unpin_ok o₆) frdx dxS (fun b q hne e => (hb₇.2 b hne).trans e) nfdx
  have o₇ : Ok (C.pin [(h₁.objs.size + 1, instObj Hc h₁.objs.size), (h₁.objs.size, hdDict hsh t₇ l n₇)]) ((l, [], []) :: σ) h₇ := by
    refine ⟨oC₇.base, fun q hq => ?_, fun q hq => ?_, oC₇.at_, oC₇.nd, oC₇.zs⟩
    · rcases List.mem_append.mp hq with hq | hq
      · simp only [List.mem_cons, List.not_mem_nil, or_false] at hq
        rcases hq with rfl | rfl
        · exact (hb₇.2 _ hxd).trans I₆.at_
        · exact e₇
      · exact oC₇.pin q hq
    · have fr := o₆.off q hq
      refine ⟨fr.1, fun u hu => ?_, fr.2.2⟩
      rcases List.mem_append.mp hu with hu | hu
      · simp only [List.mem_cons, List.not_mem_nil, or_false] at hu
        rcases hu with rfl | rfl
        · exact fr.2.1 (h₁.objs.size + 1, instObj Hc h₁.objs.size) (by simp [Cx.pin])
        · exact fr.2.1 (h₁.objs.size, dictOf [] 0) (by simp [Cx.pin])
      · exact fr.2.1 u (List.mem_append_right _ hu)
  have ownx : ¬ Own (fenv fd fI L) (h₁.objs.size + 1) := own₂ _ _ ex fun hm => by
    obtain ⟨q, hq, e⟩ := List.mem_map.mp hm
    exact (o'.off q hq).2.1 (h₁.objs.size + 1, instObj Hc h₁.objs.size) (by simp [Cx.pin]) e.symm
  have fm₇ : Fm (C.pin [(h₁.objs.size + 1, instObj Hc h₁.objs.size), (h₁.objs.size, hdDict hsh t₇ l n₇)]) ((l, [], []) :: σ) h₇ (fenv fd fI L) true ρ₄ :=
    pin_fm ((unpin_fm fm₆).but (fun b q hne e => (hb₇.2 b hne).trans e) ownd sq₇) ownx ownd
  refine wpAny_execs_cons (wpAny_mono ((h4 (C.pin [(h₁.objs.size + 1, instObj Hc h₁.objs.size), (h₁.objs.size, hdDict hsh t₇ l n₇)]) _ L l ρ₄ rfl rfl rfl (rmD L) ehd).run _ o₇ fm₇ _) ?_ fun _ _ q => q)
  rintro fl s₈ ⟨l₈, ρ₈, _, ⟨rfl, rfl⟩, rf, nz₈, fm₈⟩
  cases rf
  refine wpAny_execs_nil ?_
  refine ⟨rfl, ?_⟩
  -- back in the frame that asked
  have le18 : ∀ a q, h₁.get? a = some q → a ∉ σ.S → s₈.heap.get? a = some q ∧ a ∉ Sto.S ((l, [], []) :: σ) := fun a q e hS => by
    have e' := kx a q e
    have ow := own₂ a q e' hS
    have ne : a ≠ h₁.objs.size := fun z => by rw [z, ndx] at e; cases e
    have q2 := n₂.le a q e' hS
    have q6 := nz₆.le a q q2.1 q2.2 fun w => ow w.own
    have q7 : h₇.get? a = some q := (hb₇.2 a ne).trans q6.1
    exact nz₈.le a q q7 q6.2 fun w => ow w.own
  have T : Tb (C.pin [(h₁.objs.size + 1, instObj Hc h₁.objs.size), (h₁.objs.size, hdDict hsh t₇ l n₇)]) Hc (h₁.objs.size + 1) l := ⟨h₁.objs.size, hsh, t₇, n₇, by simp [Cx.pin], by simp [Cx.pin]⟩
  have nxC : Nx C σ ⟨h₁, g₁, d₁, tk₁, os₁⟩ ((l, [], []) :: σ) s₈ := ⟨unpin_ok nz₈.ok, le18, (nz₈.gens.trans (nz₆.gens.trans n₂.gens)), (nz₈.os.trans (nz₆.os.trans n₂.os))⟩
  have f₈ := f₁.next nxC
  have f₈' : Fm (C.pin [(h₁.objs.size + 1, instObj Hc h₁.objs.size), (h₁.objs.size, hdDict hsh t₇ l n₇)]) ((l, [], []) :: σ) s₈.heap env wr ρ := pin_fm f₈ (not_own_of_none f₁ nx) (not_own_of_none f₁ ndx)
  show wpAny C.M A (storeName env t (.ref (h₁.objs.size + 1))) _ E s₈
  refine wp_store nz₈.ok f₈' (.raw _) hst fun s₉ nz₉ f₉ => ?_
  refine wpAny_mono ((h _ _ l T).run s₉ nz₉.ok f₉ E) ?_ fun _ _ q => q
  rintro fl s₁₀ ⟨l₁₀, ρ₁₀, σ₁₀, p₁₀, rf, nz₁₀, f₁₀⟩
  refine ⟨l₁₀, ρ₁₀, σ₁₀, p₁₀, rf, ?_, unpin_fm f₁₀⟩
  have nzC := (n₁.trans nxC).nz f
  have z9 : Nz C env wr ((l, [], []) :: σ) s₈ ((l, [], []) :: σ) s₉ := ⟨unpin_ok nz₉.ok, nz₉.le, nz₉.own, nz₉.gens, nz₉.os⟩
  have z10 : Nz C env wr ((l, [], []) :: σ) s₉ σ₁₀ s₁₀ := ⟨unpin_ok nz₁₀.ok, nz₁₀.le, nz₁₀.own, nz₁₀.gens, nz₁₀.os⟩
  exact (nzC.trans z9).trans z10
end
end Mine
namespace Mine

mutual
noncomputable def toP : D → PyData
  | .none => .none
  | .bool b => .bool b
  | .int i => .int i
  | .str x => .str x
  | .list ds => .list (toPs ds)
  | .tuple ds => .tuple (toPs ds)
  | _ => .none
noncomputable def toPs : List D → List PyData
  | [] => []
  | d :: ds => toP d :: toPs ds
end
/-- plain data of at most so many floors -/
noncomputable def Dt : Nat → D → Prop
  | _, .none => True
  | _, .bool _ => True
  | _, .int _ => True
  | _, .str x => PyData.strOk x = true
  | n + 1, .list ds => ∀ d ∈ ds, Dt n d
  | n + 1, .tuple ds => ∀ d ∈ ds, Dt n d
  | _, _ => False

mutual
theorem rep_reads {h : Heap} {S : List Addr} : ∀ {v : Value} {d : D} (n : Nat), Rep h S v d → Dt n d → ∃ as, Reads h v (toP d) as
  | _, _, _, .none, _ => ⟨_, .none⟩
  | _, _, _, .bool b, _ => ⟨_, .bool b⟩
  | _, _, _, .int i t, _ => ⟨_, .int i t⟩
  | _, _, _, .str x t, _ => ⟨_, .str x t⟩
  | _, _, n, .bytes _ _, hk => by cases n <;> simp [Dt] at hk
  | _, _, 0, .list _ _ _, hk => by simp [Dt] at hk
  | _, _, 0, .tuple _ _ _, hk => by simp [Dt] at hk
  | _, _, n + 1, .list ⟨o, ho, hc, m, hd⟩ _ r, hk => by
    obtain ⟨as, q⟩ := repL_reads n r (by simpa [Dt] using hk)
    rw [toP]
    exact ⟨_, reads_list_at ho hc hd (by simpa using q)⟩
  | _, _, n + 1, .tuple ⟨o, ho, hc, m, hd⟩ _ r, hk => by
    obtain ⟨as, q⟩ := repL_reads n r (by simpa [Dt] using hk)
    rw [toP]
    exact ⟨_, reads_tuple_at ho hc hd (by simpa using q)⟩
  | _, _, n, .range _ _, hk => by cases n <;> simp [Dt] at hk
  | _, _, n, .raw _, hk => by cases n <;> simp [Dt] at hk
theorem repL_reads {h : Heap} {S : List Addr} : ∀ {vs : List Value} {ds : List D} (n : Nat), RepL h S vs ds → (∀ d ∈ ds, Dt n d) → ∃ as, ReadsAll h vs (toPs ds) as
  | _, _, _, .nil, _ => ⟨_, .nil⟩
  | _, _, n, .cons hd r, hk => by
    obtain ⟨as, q⟩ := rep_reads n hd (hk _ (.head _))
    obtain ⟨bs, p⟩ := repL_reads n r fun d hm => hk d (.tail _ hm)
    rw [toPs]
    exact ⟨_, .cons q p⟩
end
theorem dt_lay : ∀ (n : Nat) (d : D), Dt n d → (toP d).canLay0 = true ∧ (toP d).depth ≤ n := by
  have all : ∀ (n : Nat), (∀ d, Dt n d → (toP d).canLay0 = true ∧ (toP d).depth ≤ n) → ∀ ds : List D, (∀ d ∈ ds, Dt n d) → PyData.canLayAll0 (toPs ds) = true ∧ PyData.depthAll (toPs ds) ≤ n := by
    intro n ih ds
    induction ds with
    | nil => intro _; simp [toPs, PyData.canLayAll0, PyData.depthAll]
    | cons d ds hi =>
      intro h
      have h1 := ih d (h d (.head _))
      have h2 := hi fun e he => h e (.tail _ he)
      simp only [toPs, PyData.canLayAll0, PyData.depthAll, h1.1, h2.1, Bool.and_self, true_and]
      have a1 := h1.2
      have a2 := h2.2
      omega
  intro n
  induction n with
  | zero =>
    intro d h
    cases d <;> simp_all [Dt, toP, PyData.canLay0, PyData.depth]
  | succ n ih =>
    intro d h
    cases d with
    | tuple ds =>
      have q := all n ih ds (by simpa [Dt] using h)
      have q2 := q.2
      simp only [toP, PyData.canLay0, PyData.depth, q.1, true_and]
      omega
    | list ds =>
      have q := all n ih ds (by simpa [Dt] using h)
      have q2 := q.2
      simp only [toP, PyData.canLay0, PyData.depth, q.1, true_and]
      omega
    | _ => simp_all [Dt, toP, PyData.canLay0, PyData.depth]
theorem eqvAll_self (ds : List D) (h : ∀ d ∈ ds, PyData.eqv (toP d) (toP d) = true) : PyData.eqvAll (toPs ds) (toPs ds) = true := by
  induction ds with
  | nil => rfl
  | cons d ds ih => rw [toPs, PyData.eqvAll, h d (.head _), ih fun e he => h e (.tail _ he)]; rfl
theorem dt_eqv : ∀ (n : Nat) (d : D), Dt n d → PyData.eqv (toP d) (toP d) = true := by
  intro n
  induction n with
  | zero => intro d h; cases d <;> simp_all [Dt, toP, PyData.eqv]
  | succ n ih =>
    intro d h
    cases d with
    | tuple ds => rw [toP, PyData.eqv]; exact eqvAll_self ds fun e he => ih e (h e he)
    | list ds => rw [toP, PyData.eqv]; exact eqvAll_self ds fun e he => ih e (h e he)
    | _ => simp_all [Dt, toP, PyData.eqv]
section
variable {C : Cx} {A : Around} {env : Env} {wr : Bool} {ρ : Rho} {σ : Sto} {P : D → Sto → Prop}
theorem shaped_of {n : Nat} {d : D} (h : Dt n d) (hn : n ≤ 64) : SeqAt.shaped (toP d) = true := by
  have q := dt_lay n d h
  have q2 := q.2
  unfold SeqAt.shaped
  rw [q.1, Bool.true_and]
  exact decide_eq_true (by omega)
theorem op_eq_data {n : Nat} {a b : D} (rm : Rm n A) (ha : Dt 8 a) (hb : Dt 8 b) (h : P (.bool (PyData.eqv (toP a) (toP b))) σ) : Op2 C A (compareOp .Eq) a b σ P := by
  constructor
  intro s va vb o ra rb E
  obtain ⟨as, qa⟩ := rep_reads 8 ra ha
  obtain ⟨bs, qb⟩ := rep_reads 8 rb hb
  have u := rm.units
  exact eq_dataH qa qb (shaped_of ha (by omega)) (shaped_of hb (by omega)) (by unfold cLine; omega) ⟨_, _, h, .bool _, .refl o⟩
theorem op_ne_data {n : Nat} {a b : D} (rm : Rm n A) (ha : Dt 8 a) (hb : Dt 8 b) (h : P (.bool (!PyData.eqv (toP a) (toP b))) σ) : Op2 C A (compareOp .NotEq) a b σ P := by
  constructor
  intro s va vb o ra rb E
  obtain ⟨as, qa⟩ := rep_reads 8 ra ha
  obtain ⟨bs, qb⟩ := rep_reads 8 rb hb
  have u := rm.units
  exact ne_dataH qa qb (shaped_of ha (by omega)) (shaped_of hb (by omega)) (by unfold cLine; omega) ⟨_, _, h, .bool _, .refl o⟩
/-- equal on both sides -/
theorem op_ne_self {n : Nat} {a : D} (rm : Rm n A) (ha : Dt 8 a) (h : P (.bool false) σ) : Op2 C A (compareOp .NotEq) a a σ P :=
  op_ne_data rm ha ha (by rw [dt_eqv 8 a ha]; exact h)
end
end Mine
namespace Mine

section
variable {C : Cx} {A : Around} {env : Env} {wr : Bool} {ρ : Rho} {σ : Sto} {E : Value → Shared → Prop} {s : Shared}

theorem Asg.mono {t : Expr} {d : D} {P P' : Rho → Sto → Prop} (h : Asg C A env wr ρ σ t d P) (i : ∀ r σ', P r σ' → P' r σ') : Asg C A env wr ρ σ t d P' :=
  ⟨fun s v o f r E => wpAny_mono (h.run s v o f r E) (fun _ _ ⟨a, b, p, q⟩ => ⟨a, b, i _ _ p, q⟩) fun _ _ x => x⟩

theorem Ifs.mono {ifs : List Expr} {P P' : Bool → Sto → Prop} (h : Ifs C A env ρ σ ifs P) (i : ∀ b σ', P b σ' → P' b σ') : Ifs C A env ρ σ ifs P' :=
  match ifs, h with
  | [], h => i _ _ h
  | [_], h => Bv.mono h i
  | _ :: _ :: _, h => h.elim

/-- a comprehension whose parts leave the store alone -/
theorem comp_run {t elt : Expr} {ifs : List Expr} {P : List D → Sto → Prop} {src : Src} {items acc : List D} (g : D → Option D) (I : Rho → Prop) (hI : I ρ) (hin : InSt src σ)
    (h : ∀ d ∈ items, ∀ ρ, I ρ → Asg C A env false ρ σ t d fun ρ₁ σ₁ => σ = σ₁ ∧ I ρ₁ ∧ Ifs C A env ρ₁ σ₁ ifs fun b σ₂ => σ₁ = σ₂ ∧ if b then Ev C A env false ρ₁ σ₂ elt fun e σ₃ => σ₂ = σ₃ ∧ g d = some e else g d = none)
    (hP : P (acc ++ items.filterMap g) σ) : Comp C A env t ifs elt P src items acc ρ σ := by
  induction items generalizing acc ρ with
  | nil => simpa [Comp] using hP
  | cons d ds ih =>
    refine Asg.mono (h d (.head _) ρ hI) ?_
    rintro ρ₁ _ ⟨rfl, i₁, h₁⟩
    refine Ifs.mono h₁ ?_
    rintro b _ ⟨rfl, h₂⟩
    cases b with
    | false =>
      refine ⟨hin, ih i₁ (fun d hd => h d (.tail _ hd)) ?_⟩
      have : g d = none := h₂
      simpa [List.filterMap_cons, this] using hP
    | true =>
      refine Ev.mono h₂ ?_
      rintro e _ ⟨rfl, h₃⟩
      refine ⟨hin, ih i₁ (fun d hd => h d (.tail _ hd)) ?_⟩
      simpa [List.filterMap_cons, h₃] using hP

theorem bnd2k {fd : FuncData} {x y z : Str} {d e f : D} {R : Rho → Sto → Prop} (hb : ∀ v u w, bindArgs fd ⟨[v, u], [(z, w)]⟩ = pure [(x, v), (y, u), (z, w)]) (h : R [(x, d), (y, e), (z, f)] σ) : Bnd C fd [d, e] [(z, f)] σ R :=
  bnd_pure [(x, d), (y, e), (z, f)] h fun s vs ks o r q => by
    cases q with | cons q1 q => cases q; cases r with | cons r1 r => cases r with | cons r2 r => cases r; exact ⟨[_, _, _], .of_eq (hb _ _ _), .cons r1 (.cons r2 (.cons q1 .nil))⟩
/-- a last parameter that is left out and stands at none -/
theorem bnd1d {K : Frag} {fd : FuncData} {x z : Str} {d : D} {R : Rho → Sto → Prop} (X : K.In C.h₀) (hb : ∀ v S, peek K S (bindArgs fd ⟨[v], []⟩) = some [(x, v), (z, .none)]) (h : R [(x, d), (z, .none)] σ) : Bnd C fd [d] [] σ R :=
  bnd_pure [(x, d), (z, .none)] h fun s vs ks o r q => by
    cases q; cases r with | cons r1 r => cases r; exact ⟨[_, _], kp_binds (X.keeps o.base) (hb _), .cons r1 (.cons .none .nil)⟩
theorem bnd2d {K : Frag} {fd : FuncData} {x y z : Str} {d e : D} {R : Rho → Sto → Prop} (X : K.In C.h₀) (hb : ∀ v u S, peek K S (bindArgs fd ⟨[v, u], []⟩) = some [(x, v), (y, u), (z, .none)]) (h : R [(x, d), (y, e), (z, .none)] σ) : Bnd C fd [d, e] [] σ R :=
  bnd_pure [(x, d), (y, e), (z, .none)] h fun s vs ks o r q => by
    cases q; cases r with | cons r1 r => cases r with | cons r2 r => cases r; exact ⟨[_, _, _], kp_binds (X.keeps o.base) (hb _ _), .cons r1 (.cons r2 (.cons .none .nil))⟩

end
end Mine
namespace Mine

section
variable {C : Cx} {A : Around} {env : Env} {wr : Bool} {ρ : Rho} {σ : Sto} {E : Value → Shared → Prop} {s : Shared}

/-- the binding of arguments that lays objects of its own -/
noncomputable def BndP (C : Cx) (fd : FuncData) (args : List D) (kw : List (Str × D)) (σ : Sto) (R : List (Addr × Obj) → Rho → Prop) : Prop :=
  ∀ A s vs ks, Ok C σ s.heap → RepL s.heap (C.V σ) vs args → RepL s.heap (C.V σ) ks (kw.map (·.2)) → ∀ E, wpAny C.M A (bindArgs fd ⟨vs, (kw.map (·.1)).zip ks⟩) (fun binds s₁ =>
    ∃ ps ρ₀ bs, R ps ρ₀ ∧ binds = (ρ₀.map (·.1)).zip bs ∧ RepL s₁.heap (C.V σ) bs (ρ₀.map (·.2)) ∧ Nx C σ s σ s₁ ∧ Ok (C.pin ps) σ s₁.heap) E s

end
end Mine
namespace Mine

section
variable {C : Cx} {A : Around} {env : Env} {wr : Bool} {ρ : Rho} {σ : Sto}

theorem Asg.sub {t : Expr} {d : D} {ρ' : Rho} {P : Rho → Sto → Prop} (q : Sub ρ' ρ) (h : Asg C A env wr ρ' σ t d P) : Asg C A env wr ρ σ t d P := ⟨fun s v o f r E => h.run s v o (f.sub q) r E⟩
theorem ex1_wk {st : Stmt} {P : Fl → Rho → Sto → Prop} (h : Ex1 C A env wr ρ σ st fun fl ρ' σ' => ∃ ρ'', Sub ρ'' ρ' ∧ P fl ρ'' σ') : Ex1 C A env wr ρ σ st P :=
  ⟨fun s o f E => wpAny_mono (h.run s o f E) (fun _ _ ⟨l, _, σ', ⟨ρ'', q, p⟩, r, n, fm⟩ => ⟨l, ρ'', σ', p, r, n, fm.sub q⟩) fun _ _ x => x⟩
/-- what holds ahead of each turn of a for -/
structure Goes (C : Cx) (A : Around) (env : Env) (wr : Bool) (t : Expr) (body : List Stmt) (P : Fl → Rho → Sto → Prop) (src : Src) (I : List D → Rho → Sto → Prop) : Prop where
  last : ∀ ρ σ, I [] ρ σ → P .nx ρ σ
  turn : ∀ d ds ρ σ, I (d :: ds) ρ σ → Asg C A env wr ρ σ t d fun ρ₁ σ₁ => Ex C A env wr ρ₁ σ₁ body fun fl ρ₂ σ₂ => match fl with
      | .nx => InSt src σ₂ ∧ ∃ ρ₃, Sub ρ₃ ρ₂ ∧ I ds ρ₃ σ₂
      | .cont => InSt src σ₂ ∧ ∃ ρ₃, Sub ρ₃ ρ₂ ∧ I ds ρ₃ σ₂
      | .brk => P .nx ρ₂ σ₂
      | .ret d => P (.ret d) ρ₂ σ₂
theorem Goes.turns {t : Expr} {body : List Stmt} {P : Fl → Rho → Sto → Prop} {src : Src} {I : List D → Rho → Sto → Prop} (g : Goes C A env wr t body P src I) {ρ₀ : Rho} : ∀ {items : List D} {ρ : Rho} {σ : Sto}, Sub ρ₀ ρ → I items ρ₀ σ →
    Turns C A env wr t body (fun fl ρ' σ' => ∃ ρ'', Sub ρ'' ρ' ∧ P fl ρ'' σ') src items ρ σ := by
  intro items
  induction items generalizing ρ₀ with
  | nil => exact fun q i => ⟨ρ₀, q, g.last _ _ i⟩
  | cons d ds ih =>
    intro ρ σ q i
    refine Asg.mono (Asg.sub q (g.turn d ds ρ₀ σ i)) fun ρ₁ σ₁ h₁ => Ex.mono h₁ fun fl ρ₂ σ₂ h₂ => ?_
    cases fl with
    | nx => obtain ⟨a, ρ₃, b, c⟩ := h₂; exact ⟨a, ih b c⟩
    | cont => obtain ⟨a, ρ₃, b, c⟩ := h₂; exact ⟨a, ih b c⟩
    | brk => exact ⟨_, .refl, h₂⟩
    | ret _ => exact ⟨_, .refl, h₂⟩
theorem ex1_for_inv {target iter : Expr} {body : List Stmt} {pos : Pos} {P : Fl → Rho → Sto → Prop}
    (h : Ev C A env wr ρ σ iter fun d σ₁ => ∃ src items, Itr C A d σ₁ src items ∧ InSt src σ₁ ∧ ∃ I ρ₀, Sub ρ₀ ρ ∧ I items ρ₀ σ₁ ∧ Goes C A env wr target body P src I)
    (hs : ∀ x, foldedSetIterable iter env x = pure x := by intro _; rfl) : Ex1 C A env wr ρ σ (.For target iter body [] pos) P :=
  ex1_wk (ex1_for (h.mono fun _ _ ⟨src, items, a, b, I, ρ₀, c, d, e⟩ => ⟨src, items, a, b, e.turns c d⟩) hs)
end
end Mine
namespace Mine
section
variable {C : Cx} {A : Around} {env : Env} {wr : Bool} {ρ : Rho} {σ : Sto}
theorem ifs_nil {P : Bool → Sto → Prop} (h : P true σ) : Ifs C A env ρ σ [] P := h
/-- the same with names that stay as they are -/
theorem comp_go {t elt : Expr} {ifs : List Expr} {P : List D → Sto → Prop} {src : Src} {items : List D} (g : D → Option D) (ρ₀ : Rho) (hI : Sub ρ₀ ρ) (hin : InSt src σ)
    (h : ∀ d ∈ items, Asg C A env false ρ₀ σ t d fun ρ₁ σ₁ => σ = σ₁ ∧ Sub ρ₀ ρ₁ ∧ Ifs C A env ρ₁ σ₁ ifs fun b σ₂ => σ₁ = σ₂ ∧ if b then Ev C A env false ρ₁ σ₂ elt fun e σ₃ => σ₂ = σ₃ ∧ g d = some e else g d = none)
    (hP : P (items.filterMap g) σ) : Comp C A env t ifs elt P src items [] ρ σ :=
  comp_run g (Sub ρ₀) hI hin (fun d hd _ hr => Asg.sub hr (h d hd)) (by simpa using hP)
end
end Mine
namespace Mine
section
variable {C : Cx} {A : Around} {env : Env} {wr : Bool} {ρ : Rho} {σ : Sto}
theorem updS_one {l : Addr} {vs us : List Value} {ds es : List D} : updS [(l, vs, ds)] l us es = [(l, us, es)] := by simp [updS]
end
end Mine
namespace Mine
section
variable {C : Cx} {A : Around} {env : Env} {wr : Bool} {ρ : Rho} {σ : Sto} {P : D → Sto → Prop}
theorem ca_min2 (hh : A.handled = none) {a b : Int} (h : P (.int (if b < a then b else a)) σ) : Ca C A (.builtin "min") [.int a, .int b] [] σ P :=
  ca_intro fun s vs o r E => by
    obtain ⟨v, u, rfl, ⟨⟩, ⟨⟩⟩ := r.inv2
    refine min_two_ints hh fun h' tk k => ⟨_, _, h, ?_, .of_keeps o k⟩
    split <;> exact .int _ _
theorem repL_rep {h : Heap} {S : List Addr} : ∀ {vs : List Value} {ds : List D} (n : Nat), RepL h S vs ds → RepL h S (List.replicate n vs).flatten (List.replicate n ds).flatten
  | _, _, 0, _ => .nil
  | _, _, n + 1, r => by rw [List.replicate_succ, List.flatten_cons, List.replicate_succ, List.flatten_cons]; exact r.append (repL_rep n r)
theorem op_mul_list {ds : List D} {k : Nat} (hsz : ds.length * k ≤ 10000) (hk : k ≤ 10000) (h : P (.list (List.replicate k ds).flatten) σ) : Op2 C A (binaryOp .Mult) (.list ds) (.int k) σ P := by
  constructor
  intro s va vb o ra rb E
  cases rb
  cases ra with
  | list hl hn rl =>
    rename_i t a vs
    obtain ⟨⟨cls, dd, data, sl⟩, ho, hc, n, hd⟩ := id hl
    simp only at hc hd
    subst hc hd
    have hlen := rl.length
    obtain ⟨x, hx⟩ : ∃ x : Int, x = (k : Int) := ⟨_, rfl⟩
    rw [← hx]
    have hxk : x.toNat = k := by omega
    have hsz' : vs.toArray.size * x.toNat ≤ 10000 := by rw [hxk, List.size_toArray, hlen]; exact hsz
    refine wpAny_binaryOp_repeat_ref (T := "list") (U := "int") (by decide) ⟨_, ho, rfl⟩ (fun s' => typeIs_int s' x t) noFill_list_mul F.fills_int_mul F.slot_int_rmul repeat_list F.slot_int_index.lookup
      (call_meets F.slot_int_rmul (typeIs_int s x t) F.entry_int_rmul (F.args_int_rmul_2 _ _) (lm_int_rmul_list_any x t a vs.toArray n dd sl)
        ⟨ho, rfl, ⟨_, ho, rfl⟩, call_meets F.slot_list_mul ⟨_, ho, rfl⟩ F.entry_list_mul (F.args_list_mul_2 _ _)
          (lm_list_mul_any a vs.toArray n dd sl x t (by simp [Builtin.List.listFitsIndex]; omega) (by omega) (by simp [Builtin.List.listTooLong, sizeLine]; simp at hsz'; omega))
          ⟨ho, ?_⟩⟩)
    rw [listMul_foldl_if, hxk]
    exact ⟨_, _, h, rep_list o (repL_rep k rl), nx_push o _⟩
theorem strs_repL {h : Heap} {S : List Addr} : ∀ (l : List (Str × Tok)), RepL h S (strValues l) ((l.map (·.1)).map D.str)
  | [] => .nil
  | _ :: l => .cons (.str _ _) (strs_repL l)
open Builtin.Str in
theorem ca_split {x y : Str} (h1 : (decide (x.length < y.length) || decide (strKind x < strKind y)) = false) (hy : (y.length == 0) = false) (hf : (occurrences x y 0 x.length (x.length + 1)).isEmpty = false) (hx : x.length ≤ sizeLine)
    (hn : (partsBetween x (occurrences x y 0 x.length (x.length + 1)) y.length).length ≤ sizeLine)
    (h : P (.list ((partsBetween x (occurrences x y 0 x.length (x.length + 1)) y.length).map .str)) σ) : Ca C A (.builtin "str.split") [.str x, .str y] [] σ P :=
  ca_intro fun s vs o r E => by
    obtain ⟨v, u, rfl, ⟨⟩, ⟨⟩⟩ := r.inv2
    refine call_meets F.slot_str_split (typeIs_str _ _ _) F.entry_str_split (F.args_str_split_2 _ _) (meets_str_split_sep x y _ _ h1 hy hf hx hn) ⟨_, _, h, ?_, ?_⟩
    · rw [strsFrom_eq]
      have := strs_repL (h := s.heap) (S := C.V σ) (numbered s.toks (partsBetween x (occurrences x y 0 x.length (x.length + 1)) y.length))
      rw [numbered_texts] at this
      exact rep_list o this
    · exact (nx_push o _).trans (nx_toks (s := { s with heap := _ }) (nx_push o _).ok _)
theorem op_notin_data {n : Nat} {x : D} {ds : List D} (rm : Rm n A) (ha : Dt 8 x) (hb : Dt 8 (.list ds)) (h : P (.bool (!(toPs ds).any fun y => PyData.eqv y (toP x))) σ) : Op2 C A (compareOp .NotIn) x (.list ds) σ P := by
  constructor
  intro s va vb o ra rb E
  obtain ⟨as, qa⟩ := rep_reads 8 ra ha
  obtain ⟨bs, qb⟩ := rep_reads 8 rb hb
  have u := rm.units
  have l1 := dt_lay 8 x ha
  have l2 := dt_lay 8 (.list ds) hb
  refine SeqAt.notIn_list_reads (xs := toPs ds) (d := toP x) qb qa ?_ l1.1 ?_ ⟨_, _, h, .bool _, .refl o⟩
  · exact l2.1
  · have : min (PyData.depthAll (toPs ds)) (toP x).depth ≤ 8 := Nat.le_trans (Nat.min_le_right _ _) l1.2
    unfold cLine; omega
end
end Mine
namespace Mine
/-- whole numbers, place by place -/
noncomputable def lexLt : List Int → List Int → Bool
  | [], [] => false
  | [], _ :: _ => true
  | _ :: _, [] => false
  | x :: xs, y :: ys => if x = y then lexLt xs ys else decide (x < y)
open MeetsSeq MeetsSeq3 in
open AutoSeq1 (wpAny_loadPart') in
theorem lt_loop (l b : Addr) (is js : List (Int × Tok)) (n n2 : Nat) (dd dd2 : Option Addr) (sl sl2 : Array (Option Value)) (k : Nat) :
    ∀ i : Nat, is.length - i = k → i ≤ is.length → i ≤ js.length → Meets (Builtin.«list.__eq__.loop» ⟨[.ref l, .ref b, rawInt i, rawInt 0], []⟩)
      (fun _ R s => s.heap.get? l = some { cls := .type "list", dict := dd, data := .seq (is.map fun p => Value.int p.1 p.2).toArray n, slots := sl } ∧ s.heap.get? b = some { cls := .type "list", dict := dd2, data := .seq (js.map fun p => Value.int p.1 p.2).toArray n2, slots := sl2 } ∧
        R (.ok (.ret (.bool (lexLt ((is.drop i).map (·.1)) ((js.drop i).map (·.1)))))) s) := by
  induction k with
  | zero =>
    intro i hk hi hj prog w A R s h
    obtain ⟨hp, g, d, tk, os⟩ := s; obtain ⟨hl, hb, h⟩ := h
    wp_walk using wpAny_loadPart' hl, wpAny_loadPart' hb
    have hi1 : (is.map fun p => Value.int p.1 p.2).toArray[((i : Nat) : Int).toNat]? = none := by simp; omega
    have hd : is.drop i = [] := by simp; omega
    rw [hd] at h
    rw [hi1]
    wp_walk using wpAny_loadPart' hl, wpAny_loadPart' hb
    show R (.ok (.ret (.bool (decide ((is.map fun p => Value.int p.1 p.2).toArray.size < (js.map fun p => Value.int p.1 p.2).toArray.size)))) ) _
    have e : lexLt (([] : List (Int × Tok)).map (·.1)) ((js.drop i).map (·.1)) = decide ((is.map fun p => Value.int p.1 p.2).toArray.size < (js.map fun p => Value.int p.1 p.2).toArray.size) := by
      simp only [List.size_toArray, List.length_map]
      cases hjs : js.drop i with
      | nil =>
        have : js.length ≤ i := by simpa using hjs
        symm; simp only [List.map_nil, lexLt, decide_eq_false_iff_not]; omega
      | cons p r =>
        have : i < js.length := by
          rcases Nat.lt_or_ge i js.length with z | z
          · exact z
          · have := List.drop_eq_nil_of_le z; rw [this] at hjs; cases hjs
        symm; simp only [List.map_nil, List.map_cons, lexLt, decide_eq_true_eq]; omega
    rw [e] at h
    exact h
  | succ k ih =>
    intro i hk hi hj prog w A R s h
    obtain ⟨hp, g, d, tk, os⟩ := s; obtain ⟨hl, hb, h⟩ := h
    wp_walk using wpAny_loadPart' hl, wpAny_loadPart' hb
    have hlt : i < is.length := by omega
    have hi1 : (is.map fun p => Value.int p.1 p.2).toArray[((i : Nat) : Int).toNat]? = some (Value.int is[i].1 is[i].2) := by simp [hlt]
    have hd1 : is.drop i = is[i] :: is.drop (i + 1) := List.drop_eq_getElem_cons hlt
    rw [hd1] at h
    rw [hi1]
    rcases Nat.lt_or_ge i js.length with hlt2 | hge
    · have hi2 : (js.map fun p => Value.int p.1 p.2).toArray[((i : Nat) : Int).toNat]? = some (Value.int js[i].1 js[i].2) := by simp [hlt2]
      have hd2 : js.drop i = js[i] :: js.drop (i + 1) := List.drop_eq_getElem_cons hlt2
      have hc : ((i : Int) + 1) = ((i + 1 : Nat) : Int) := by push_cast; rfl
      rw [hd2] at h
      rw [hi2]
      refine wpAny_bind (EqGives.int is[i].1 js[i].1 is[i].2 js[i].2 prog w _ _ _ _ ?_)
      cases hb' : (is[i].1 == js[i].1) with
      | true =>
        simp only [List.map_cons, lexLt, if_pos (eq_of_beq hb')] at h
        wp_walk
        rw [hc]
        exact ⟨plainId_quiet plain_eq_loop _, codeAny_builtin entry_eq_loop (by
          rw [Around.under_plainId plain_eq_loop _]
          exact ih (i + 1) (by omega) (by omega) (by omega) prog w A R _ ⟨hl, hb, h⟩)⟩
      | false =>
        simp only [List.map_cons, lexLt, if_neg (by simpa using hb' : ¬ is[i].1 = js[i].1)] at h
        wp_walk using wpAny_loadPart' hl, wpAny_loadPart' hb
        rw [hi1, hi2]
        show wpAny _ _ (do ret (← richCompare .Lt (Value.int is[i].1 is[i].2) (Value.int js[i].1 js[i].2))) _ _ _
        refine wpAny_bind (show wpAny _ _ (richCompare .Lt _ _) _ _ _ from PySem.P.lt_int ?_)
        exact wpAny_pure h
    · have hi2 : (js.map fun p => Value.int p.1 p.2).toArray[((i : Nat) : Int).toNat]? = none := by simp; omega
      have hd2 : js.drop i = [] := by simp; omega
      rw [hd2] at h
      rw [hi2]
      wp_walk using wpAny_loadPart' hl, wpAny_loadPart' hb
      show R (.ok (.ret (.bool (decide ((is.map fun p => Value.int p.1 p.2).toArray.size < (js.map fun p => Value.int p.1 p.2).toArray.size)))) ) _
      have e : decide ((is.map fun p => Value.int p.1 p.2).toArray.size < (js.map fun p => Value.int p.1 p.2).toArray.size) = false := by
        simp only [List.size_toArray, List.length_map, decide_eq_false_iff_not]; omega
      rw [e]
      exact h

open MeetsSeq MeetsSeq3 in
open AutoSeq1 (wpAny_loadPart') in
theorem list_lt (l b : Addr) (is js : List (Int × Tok)) (n n2 : Nat) (dd dd2 : Option Addr) (sl sl2 : Array (Option Value)) : Meets (Builtin.«list.__lt__» ⟨[.ref l, .ref b], []⟩)
      (fun _ R s => s.heap.get? l = some { cls := .type "list", dict := dd, data := .seq (is.map fun p => Value.int p.1 p.2).toArray n, slots := sl } ∧ s.heap.get? b = some { cls := .type "list", dict := dd2, data := .seq (js.map fun p => Value.int p.1 p.2).toArray n2, slots := sl2 } ∧
        R (.ok (.ret (.bool (lexLt (is.map (·.1)) (js.map (·.1)))))) s) := by
  intro prog w A R s h
  obtain ⟨hp, g, d, tk, os⟩ := s; obtain ⟨hl, hb, h⟩ := h
  have f3 := AutoSeq1.sub_list_list
  wp_walk using wpAny_loadPart' hl, wpAny_loadPart' hb
  exact ⟨plainId_quiet plain_eq_loop _, codeAny_builtin entry_eq_loop (by
    rw [Around.under_plainId plain_eq_loop _]
    exact lt_loop l b is js n n2 dd dd2 sl sl2 _ 0 rfl (Nat.zero_le _) (Nat.zero_le _) prog w A R _ ⟨hl, hb, by simpa using h⟩)⟩
theorem ints_pairs {h : Heap} {S : List Addr} : ∀ {vs : List Value} {ns : List Int}, RepL h S vs (ns.map .int) → ∃ is : List (Int × Tok), vs = is.map (fun p => Value.int p.1 p.2) ∧ is.map (·.1) = ns
  | _, [], r => by cases r; exact ⟨[], rfl, rfl⟩
  | _, n :: ns, r => by
    cases r with
    | cons r1 r =>
      cases r1
      obtain ⟨is, rfl, rfl⟩ := ints_pairs r
      exact ⟨(n, _) :: is, rfl, rfl⟩
theorem key_lt {prog : Program} {w : World} {A : Around} {E : Value → Shared → Prop} {s : Shared} {S : List Addr} {Q : Bool → Shared → Prop} {v u : Value} {xs ys : List Int} (hu : A.units < cLine)
    (rv : Rep s.heap S v (.list (xs.map .int))) (ru : Rep s.heap S u (.list (ys.map .int))) (h : Q (lexLt xs ys) s) : wpAny (model prog w) A (keyLt' oneType' v u) Q E s := by
  cases rv with
  | list hl _ rl =>
    cases ru with
    | list hb _ rb =>
      obtain ⟨is, rfl, rfl⟩ := ints_pairs rl
      obtain ⟨js, rfl, rfl⟩ := ints_pairs rb
      obtain ⟨⟨cls, dd, data, sl⟩, ho, hc, n, hd⟩ := id hl
      obtain ⟨⟨cls2, dd2, data2, sl2⟩, ho2, hc2, n2, hd2⟩ := id hb
      simp only at hc hd hc2 hd2
      subst hc hd hc2 hd2
      rw [keyLt'_oneType, oneLt'_eq]
      simp only [if_true]
      refine wpAny_bind (wpAny_cRoomFor hu ?_)
      refine wpAny_bind (wpAny_callSpecialIfBound?_slot ⟨_, ho, rfl⟩ F.slot_list_lt (call_meets F.slot_list_lt ⟨_, ho, rfl⟩ F.entry_list_lt (F.args_list_lt_2 _ _) (list_lt _ _ is js n n2 dd dd2 sl sl2) ⟨ho, ho2, ?_⟩))
      exact wpAny_truthy_bool h
end Mine
namespace Mine
-- the sort of fewer than 64 keys, all apart: what it asks and what it gives
section
variable {r : Nat → Int} {n : Nat}
noncomputable def Tr (r : Nat → Int) (n : Nat) {α : Type} : KasT α → (α → Prop) → Prop
  | .ret a, R => R a
  | .ask i j k, R => i < n ∧ j < n ∧ Tr r n (k (decide (r i < r j))) R
theorem Tr.mono {α : Type} {R R' : α → Prop} (i : ∀ a, R a → R' a) : ∀ {t : KasT α}, Tr r n t R → Tr r n t R'
  | .ret a, h => i a h
  | .ask _ _ k, h => ⟨h.1, h.2.1, Tr.mono i (t := k _) h.2.2⟩
theorem Tr.bind {α β : Type} {f : α → KasT β} {R : β → Prop} : ∀ {t : KasT α}, Tr r n t (fun a => Tr r n (f a) R) → Tr r n (t.bind f) R
  | .ret _, h => h
  | .ask _ _ k, h => ⟨h.1, h.2.1, Tr.bind (t := k _) h.2.2⟩
theorem wp_of_tr {α : Type} {cmp : Nat → Nat → (Bool → Shared → Prop) → Shared → Prop} {Q : α → Shared → Prop} {s : Shared} (hc : ∀ i j (K : Bool → Shared → Prop), i < n → j < n → K (decide (r i < r j)) s → cmp i j K s) :
    ∀ {t : KasT α}, Tr r n t (fun a => Q a s) → t.kasWp cmp Q s
  | .ret _, h => h
  | .ask i j k, h => hc i j _ h.1 h.2.1 (wp_of_tr hc (t := k _) h.2.2)
noncomputable def key (r : Nat → Int) (p : Array Nat) (i : Nat) : Int := r (p.getD i 0)
structure Pm (n : Nat) (p : Array Nat) : Prop where
  perm : p.Perm (List.range n).toArray
theorem Pm.size {p : Array Nat} (h : Pm n p) : p.size = n := by rw [h.perm.size_eq]; simp
theorem Pm.lt {p : Array Nat} (h : Pm n p) {i : Nat} (hi : i < n) : p.getD i 0 < n := by
  have hs : i < p.size := by rw [h.size]; exact hi
  have e : p.getD i 0 = p[i] := by simp [Array.getD, hs]
  rw [e]
  have hm : p[i] ∈ (List.range n) := by
    have := (Array.perm_iff_toList_perm.mp h.perm).mem_iff (a := p[i])
    exact this.mp (by simp)
  exact List.mem_range.mp hm
theorem Pm.apart {p : Array Nat} (h : Pm n p) (inj : ∀ i j, i < n → j < n → r i = r j → i = j) {i j : Nat} (hi : i < n) (hj : j < n) (hij : i ≠ j) : key r p i ≠ key r p j := by
  intro z
  have hs : p.size = n := h.size
  have e := inj _ _ (h.lt hi) (h.lt hj) z
  have hnd : p.toList.Nodup := (Array.perm_iff_toList_perm.mp h.perm).nodup_iff.mpr (by simpa using List.nodup_range)
  have e1 : p.getD i 0 = p.toList[i]'(by simpa [hs] using hi) := by simp [Array.getD, hs, hi]
  have e2 : p.getD j 0 = p.toList[j]'(by simpa [hs] using hj) := by simp [Array.getD, hs, hj]
  rw [e1, e2] at e
  have hpw := List.pairwise_iff_getElem.mp hnd
  rcases Nat.lt_or_gt_of_ne hij with z | z
  · exact hpw i j (by simpa [hs] using hi) (by simpa [hs] using hj) z e
  · exact hpw j i (by simpa [hs] using hj) (by simpa [hs] using hi) z e.symm
noncomputable def Adj (r : Nat → Int) (p : Array Nat) (k : Nat) : Prop := ∀ i, 1 ≤ i → i < k → key r p (i - 1) ≤ key r p i
noncomputable def Srt (r : Nat → Int) (p : Array Nat) (k : Nat) : Prop := ∀ i j, i ≤ j → j < k → key r p i ≤ key r p j
theorem Adj.srt {p : Array Nat} {k : Nat} (h : Adj r p k) : Srt r p k := by
  intro i j hij
  induction j with
  | zero => intro _; have : i = 0 := by omega
            subst this; exact Int.le_refl _
  | succ j ih =>
    intro hj
    rcases Nat.lt_or_ge j i with z | z
    · have : i = j + 1 := by omega
      subst this; exact Int.le_refl _
    · exact Int.le_trans (ih z (by omega)) (h (j + 1) (by omega) hj)
theorem tr_asc {p : Array Nat} (hp : Pm n p) : ∀ (f m : Nat), 1 ≤ m → m + f ≤ n → Tr r n (kas_asc p f m) fun m' => m ≤ m' ∧ m' ≤ m + f ∧ (∀ i, m ≤ i → i < m' → key r p (i - 1) ≤ key r p i) ∧ (m' < m + f → key r p m' < key r p (m' - 1))
  | 0, m, h1, h2 => ⟨Nat.le_refl _, Nat.le_refl _, fun i a b => by omega, fun z => by omega⟩
  | f + 1, m, h1, h2 => by
    refine ⟨hp.lt (by omega), hp.lt (by omega), ?_⟩
    by_cases hc : r (p.getD m 0) < r (p.getD (m - 1) 0)
    · rw [decide_eq_true hc]
      exact ⟨Nat.le_refl _, by omega, fun i a b => by omega, fun _ => hc⟩
    · rw [decide_eq_false hc]
      refine Tr.mono ?_ (tr_asc hp f (m + 1) (by omega) (by omega))
      rintro m' ⟨a, b, c, d⟩
      refine ⟨by omega, by omega, fun i x y => ?_, fun z => d (by omega)⟩
      rcases Nat.lt_or_ge m i with z | z
      · exact c i z y
      · have : i = m := by omega
        subst this; exact Int.not_lt.mp hc
theorem tr_desc {p : Array Nat} (hp : Pm n p) (inj : ∀ i j, i < n → j < n → r i = r j → i = j) : ∀ (f m : Nat), 1 ≤ m → m + f ≤ n → Tr r n (kas_desc f p m 0) fun x => x.1 = p ∧ x.2.2 = 0 ∧ m ≤ x.2.1 ∧ x.2.1 ≤ m + f ∧ ∀ i, m ≤ i → i < x.2.1 → key r p i < key r p (i - 1)
  | 0, m, h1, h2 => ⟨rfl, rfl, Nat.le_refl _, Nat.le_refl _, fun i a b => by
      have b : i < m := b
      omega⟩
  | f + 1, m, h1, h2 => by
    refine ⟨hp.lt (by omega), hp.lt (by omega), ?_⟩
    by_cases hc : r (p.getD m 0) < r (p.getD (m - 1) 0)
    · rw [decide_eq_true hc]
      refine Tr.mono ?_ (tr_desc hp inj f (m + 1) (by omega) (by omega))
      rintro x ⟨a, b, c, d, e⟩
      refine ⟨a, b, by omega, by omega, fun i x y => ?_⟩
      rcases Nat.lt_or_ge m i with z | z
      · exact e i z y
      · have : i = m := by omega
        subst this; exact hc
    · rw [decide_eq_false hc]
      have hd : r (p.getD (m - 1) 0) < r (p.getD m 0) := by
        have := hp.apart inj (i := m) (j := m - 1) (by omega) (by omega) (by omega)
        unfold key at this
        omega
      refine ⟨hp.lt (by omega), hp.lt (by omega), ?_⟩
      rw [decide_eq_true hd]
      exact ⟨rfl, rfl, Nat.le_refl _, by show m ≤ _; omega, fun i a b => by
        have b : i < m := b
        omega⟩
theorem key_of {p q : Array Nat} {i j : Nat} (h : p[i]? = q[j]?) : key r p i = key r q j := by
  unfold key
  rw [Array.getD_eq_getD_getElem?, Array.getD_eq_getD_getElem?, h]
theorem key_rev {p : Array Nat} {m : Nat} (hm : m ≤ p.size) (k : Nat) : key r (kas_rev p 0 m) k = if k < m then key r p (m - 1 - k) else key r p k := by
  have h := getElem?_mirror_all (xs := p) (i := 0) (j := m) hm k
  split
  · rename_i hk
    refine key_of ?_
    show (mirror p 0 m ((m - 0) / 2))[k]? = _
    rw [h, if_pos ⟨Nat.zero_le _, hk⟩]; congr 1; omega
  · rename_i hk
    refine key_of ?_
    show (mirror p 0 m ((m - 0) / 2))[k]? = _
    rw [h, if_neg (by omega)]
theorem Pm.rev {p : Array Nat} (h : Pm n p) (m : Nat) : Pm n (kas_rev p 0 m) := ⟨(mirror_perm _ _ _ _).trans h.perm⟩
theorem Pm.bub {p : Array Nat} (h : Pm n p) (k d : Nat) : Pm n (bubble p k d) := ⟨(bubble_perm _ _ _).trans h.perm⟩
theorem tr_count {p : Array Nat} (hp : Pm n p) (inj : ∀ i j, i < n → j < n → r i = r j → i = j) (hn : 1 ≤ n) : Tr r n (kas_count n p) fun x => 1 ≤ x.1 ∧ x.1 ≤ n ∧ Pm n x.2 ∧ Adj r x.2 x.1 := by
  refine Tr.bind (Tr.mono ?_ (tr_asc hp (n - 1) 1 (Nat.le_refl _) (by omega)))
  rintro m ⟨a, b, c, d⟩
  have hadj : Adj r p m := fun i h1 h2 => c i h1 h2
  by_cases hm : m = n
  · subst hm
    rw [if_pos (by simp)]
    exact ⟨a, Nat.le_refl _, hp, hadj⟩
  · rw [if_neg (by simpa using hm)]
    by_cases h1 : m > 1
    · rw [if_pos h1]
      refine ⟨hp.lt (by omega), hp.lt (by omega), ?_⟩
      have hlt : r (p.getD 0 0) < r (p.getD (m - 1) 0) := by
        have h2 := hadj.srt 0 (m - 1) (by omega) (by omega)
        have h3 := hp.apart inj (i := 0) (j := m - 1) (by omega) (by omega) (by omega)
        unfold key at h2 h3
        omega
      rw [decide_eq_true hlt]
      exact ⟨by show 1 ≤ m; omega, by show m ≤ n; omega, hp, hadj⟩
    · rw [if_neg h1]
      have : m = 1 := by omega
      subst this
      have h10 : key r p 1 < key r p 0 := d (by omega)
      refine Tr.bind (Tr.mono ?_ (tr_desc hp inj (n - (1 + 1)) (1 + 1) (by omega) (by omega)))
      rintro ⟨p', m, q⟩ ⟨e1, e2, e3, e4, e5⟩
      dsimp only at e1 e2 e3 e4 e5 ⊢
      subst e1 e2
      rw [if_neg (by omega)]
      have hms : m ≤ p'.size := by rw [hp.size]; omega
      refine Tr.bind (Tr.mono ?_ (tr_asc (hp.rev m) (n - m) m (by omega) (by omega)))
      rintro m2 ⟨a2, b2, c2, _⟩
      refine ⟨by show 1 ≤ m2; omega, by show m2 ≤ n; omega, hp.rev m, fun i x y => ?_⟩
      rcases Nat.lt_or_ge i m with z | z
      · rw [key_rev hms, key_rev hms, if_pos (by omega), if_pos z]
        have h3 := e5
        by_cases hi1 : m - 1 - i + 1 = 1
        · have e6 : m - 1 - (i - 1) = 1 := by omega
          have e7 : m - 1 - i = 0 := by omega
          rw [e6, e7]; exact Int.le_of_lt h10
        · have h4 := e5 (m - 1 - (i - 1)) (by omega) (by omega)
          have e8 : m - 1 - (i - 1) - 1 = m - 1 - i := by omega
          rw [e8] at h4
          exact Int.le_of_lt h4
      · exact c2 i z y
theorem tr_place {p : Array Nat} (hp : Pm n p) {k : Nat} (hk : k < n) (hs : Srt r p k) : ∀ (f l u : Nat), u - l ≤ f → l ≤ u → u ≤ k → (∀ i, i < l → key r p i ≤ key r p k) → (∀ i, u ≤ i → i < k → key r p k < key r p i) →
    Tr r n (kas_place p k f l u) fun m => m ≤ k ∧ (∀ i, i < m → key r p i ≤ key r p k) ∧ ∀ i, m ≤ i → i < k → key r p k < key r p i
  | 0, l, u, hf, h1, h2, ha, hb => ⟨by show l ≤ k; omega, ha, fun i x y => hb i (by have x : l ≤ i := x; omega) y⟩
  | f + 1, l, u, hf, h1, h2, ha, hb => by
    rw [kas_place]
    split
    · exact ⟨by show l ≤ k; omega, ha, fun i x y => hb i (by have x : l ≤ i := x; omega) y⟩
    · refine ⟨hp.lt hk, hp.lt (by omega), ?_⟩
      by_cases hc : r (p.getD k 0) < r (p.getD ((l + u) / 2) 0)
      · rw [decide_eq_true hc]
        refine tr_place hp hk hs f l ((l + u) / 2) (by omega) (by omega) (by omega) ha fun i x y => ?_
        exact Int.lt_of_lt_of_le hc (hs _ _ x y)
      · rw [decide_eq_false hc]
        refine tr_place hp hk hs f ((l + u) / 2 + 1) u (by omega) (by omega) h2 (fun i x => ?_) hb
        exact Int.le_trans (hs i ((l + u) / 2) (by omega) (by omega)) (Int.not_lt.mp hc)
theorem key_bub {p : Array Nat} {k l : Nat} (hk : k < p.size) (hl : l ≤ k) (i : Nat) : key r (bubble p k (k - l)) i = if i = l then key r p k else if l < i ∧ i ≤ k then key r p (i - 1) else key r p i := by
  have h := getElem?_bubble hk (k - l) (by omega) i
  have e : k - (k - l) = l := by omega
  rw [e] at h
  split
  · rename_i z; rw [if_pos z] at h; exact key_of h
  · rename_i z
    rw [if_neg z] at h
    split
    · rename_i z2; rw [if_pos z2] at h; exact key_of h
    · rename_i z2; rw [if_neg z2] at h; exact key_of h
theorem tr_bin : ∀ (f : Nat) (p : Array Nat) (k : Nat), Pm n p → k + f = n → Srt r p k → Tr r n (kas_bin f p k) fun q => Pm n q ∧ Srt r q n
  | 0, p, k, hp, hk, hs => by
    have : k = n := by omega
    subst this; exact ⟨hp, hs⟩
  | f + 1, p, k, hp, hk, hs => by
    refine Tr.bind (Tr.mono ?_ (tr_place hp (by omega) hs k 0 k (by omega) (by omega) (Nat.le_refl _) (fun i z => by omega) (fun i x y => by omega)))
    rintro l ⟨h1, h2, h3⟩
    have hks : k < p.size := by rw [hp.size]; omega
    refine tr_bin f _ (k + 1) (hp.bub k (k - l)) (by omega) fun i j hij hj => ?_
    rw [key_bub hks h1, key_bub hks h1]
    repeat' split
    all_goals first
      | exact Int.le_refl _
      | (exact Int.le_of_lt (h3 _ (by omega) (by omega)))
      | (exact h2 _ (by omega))
      | (exact hs _ _ (by omega) (by omega))
      | (exfalso; omega)
theorem tr_sort (inj : ∀ i j, i < n → j < n → r i = r j → i = j) (hn : 1 ≤ n) : Tr r n (kas_sort n) fun q => Pm n q ∧ Srt r q n := by
  refine Tr.bind (Tr.mono ?_ (tr_count ⟨Array.Perm.refl _⟩ inj hn))
  rintro ⟨m, p⟩ ⟨h1, h2, h3, h4⟩
  dsimp only at *
  split
  · have : max m 1 = m := by omega
    rw [this]
    exact tr_bin (n - m) p m h3 (by omega) h4.srt
  · have : m = n := by omega
    subst this
    exact ⟨h3, h4.srt⟩
end
end Mine
namespace Mine
abbrev intsD (L : List Int) : D := .list (L.map .int)
section
variable {C : Cx} {A : Around} {env : Env} {wr : Bool} {ρ : Rho} {σ : Sto} {P : D → Sto → Prop}
theorem map_getD_range {α : Type} (d : α) (l : List α) : (List.range l.length).map (fun i => l.getD i d) = l := by
  refine List.ext_getElem (by simp) fun i h1 h2 => ?_
  simp at h1
  simp [h1]
theorem repL_pick {h : Heap} {S : List Addr} {vs : List Value} {Ls : List (List Int)} (r : RepL h S vs (Ls.map intsD)) : ∀ {p : List Nat}, (∀ i ∈ p, i < Ls.length) → RepL h S (p.map fun i => vs.getD i Value.none) ((p.map fun i => Ls.getD i []).map intsD)
  | [], _ => .nil
  | i :: p, hp => by
    refine .cons ?_ (repL_pick r fun j hj => hp j (.tail _ hj))
    have hi := hp i (.head _)
    obtain ⟨v, e, q⟩ := r.get (k := i) (d := intsD (Ls.getD i [])) (by rw [List.getElem?_map, List.getD_eq_getElem?_getD, List.getElem?_eq_getElem hi]; rfl)
    show Rep h S (vs.getD i Value.none) (intsD (Ls.getD i []))
    rw [List.getD_eq_getElem?_getD (l := vs), e]
    exact q
theorem looks_list {M : Model} {h : Heap} {S : List Addr} {vs : List Value} {Ls : List (List Int)} (r : RepL h S vs (Ls.map intsD)) : ∀ v ∈ vs, Looks M h (typeOf v) (Value.type "list") := by
  intro v hv
  obtain ⟨i, hi⟩ := List.getElem?_of_mem hv
  obtain ⟨d, hd, q⟩ := r.get' hi
  rw [List.getElem?_map] at hd
  cases hL : Ls[i]? with
  | none => rw [hL] at hd; cases hd
  | some L =>
    rw [hL] at hd
    cases hd
    cases q with
    | list hl _ _ =>
      obtain ⟨o, ho, hc, _⟩ := hl
      rw [← hc]
      exact (Looks.ld ho).andThen .now
/-- sorted upon lists of whole numbers, all apart -/
theorem ca_sorted {m : Nat} (rm : Rm (m + 2) A) {Ls : List (List Int)} {rk : List Int → Int} (h2 : 2 ≤ Ls.length) (h64 : Ls.length < 64) (hrk : ∀ L ∈ Ls, ∀ M ∈ Ls, lexLt L M = decide (rk L < rk M)) (hinj : ∀ L ∈ Ls, ∀ M ∈ Ls, rk L = rk M → L = M) (hnd : Ls.Nodup)
    (h : ∀ Ms : List (List Int), Ms.Perm Ls → Ms.Pairwise (fun L M => rk L ≤ rk M) → P (.list (Ms.map intsD)) σ) : Ca C A (.builtin "sorted") [.list (Ls.map intsD)] [] σ P :=
  ca_intro fun s ws o rr E => by
    obtain ⟨w0, rfl, rw0⟩ := rr.inv1
    cases rw0 with
    | list hl hn rl =>
      rename_i l vs
      have hlen : vs.length = Ls.length := by rw [rl.length]; simp
      have hsl : sizeLine = 16777216 := rfl
      refine Calls.call_function_entry kind_sorted plain_sorted entry_sorted (args_sorted1 _) ?_
      unfold Builtin.«sorted»
      refine wpAny_bind (m := checkCount "sorted" 1 1 _) (wpAny_pure ?_)
      refine wpAny_bind (collect_list hl ?_ (by omega))
      refine wpAny_bind (wpAny_newList ?_ (by omega))
      have hsz : ((s.heap.push (seqObj "list" #[] 0)).update s.heap.objs.size (Obj.mapSeq (· ++ vs.toArray))).objs.size = s.heap.objs.size + 1 := by
        rw [Heap.size_update, size_push']
      generalize hH : ((s.heap.push (seqObj "list" #[] 0)).update s.heap.objs.size (Obj.mapSeq (· ++ vs.toArray))) = H at hsz
      have keep1 : ∀ b x, s.heap.get? b = some x → (H.push (seqObj "list" vs.toArray 0)).get? b = some x := fun b x q => by
        have hlt : b < s.heap.objs.size := Heap.lt_size q
        rw [Heap.get?_push_ne _ _ _ (by rw [hsz]; exact Nat.ne_of_lt (Nat.lt_succ_of_lt hlt)), ← hH, Heap.get?_update_ne _ _ _ _ (Nat.ne_of_lt hlt), Heap.get?_push_ne _ _ _ (Nat.ne_of_lt hlt)]
        exact q
      have hoL : (H.push (seqObj "list" vs.toArray 0)).get? (s.heap.objs.size + 1) = some (seqObj "list" vs.toArray 0) := by
        rw [← hsz]; exact Heap.get?_push_size _ rfl
      show wpAny _ _ _ _ _ { s with heap := H.push (seqObj "list" vs.toArray 0) }
      rw [hsz]
      have hsz2 : (H.push (seqObj "list" vs.toArray 0)).objs.size = s.heap.objs.size + 2 := by rw [size_push', hsz]
      generalize hG : H.push (seqObj "list" vs.toArray 0) = G at keep1 hoL hsz2 ⊢
      refine wpAny_bind (wpAny_holding (wpAny_call_entry slot_list_sort ⟨_, hoL, rfl⟩ entry_list_sort ?_ (args_list_sort _)))
      rw [list_sort_plain]
      obtain ⟨e1, ho1⟩ : ∃ e1, (G.update (s.heap.objs.size + 1) (Obj.mapSeq fun _ => (#[] : Array Value))).get? (s.heap.objs.size + 1) = some (seqObj "list" #[] e1) := ⟨_, get?_update_seq hoL fun _ => #[]⟩
      have hsz3 : (G.update (s.heap.objs.size + 1) (Obj.mapSeq fun _ => (#[] : Array Value))).objs.size = s.heap.objs.size + 2 := by rw [Heap.size_update, hsz2]
      have keep2 : ∀ b x, s.heap.get? b = some x → (G.update (s.heap.objs.size + 1) (Obj.mapSeq fun _ => (#[] : Array Value))).get? b = some x := fun b x q => by
        have hlt : b < s.heap.objs.size := Heap.lt_size q
        rw [Heap.get?_update_ne _ _ _ _ (Nat.ne_of_lt (Nat.lt_succ_of_lt hlt))]; exact keep1 b x q
      refine wpAny_bind (listItems_at hoL rfl ?_)
      refine wpAny_bind (listUpdate_at hoL rfl ?_ (by rw [List.size_toArray]; omega) (Nat.zero_le _))
      refine wpAny_bind (seqEpoch_at ho1 rfl ?_)
      refine wpAny_bind (wpAny_newTuple ?_ (by show vs.length ≤ _; omega))
      refine wpAny_bind (wpAny_newList ?_ (Nat.zero_le _))
      refine wpAny_holding ?_
      show wpAny _ _ _ _ _ { s with heap := ((G.update (s.heap.objs.size + 1) (Obj.mapSeq fun _ => (#[] : Array Value))).push (seqObj "tuple" vs.toArray 0)).push (seqObj "list" #[] 0) }
      have keep3 : ∀ b x, (G.update (s.heap.objs.size + 1) (Obj.mapSeq fun _ => (#[] : Array Value))).get? b = some x → (((G.update (s.heap.objs.size + 1) (Obj.mapSeq fun _ => (#[] : Array Value))).push (seqObj "tuple" vs.toArray 0)).push (seqObj "list" #[] 0)).get? b = some x :=
        fun b x q => Heap.get?_push_of_some _ (Heap.get?_push_of_some _ q)
      generalize ((G.update (s.heap.objs.size + 1) (Obj.mapSeq fun _ => (#[] : Array Value))).push (seqObj "tuple" vs.toArray 0)).push (seqObj "list" #[] 0) = K at keep3 ⊢
      have keep4 : ∀ b x, s.heap.get? b = some x → K.get? b = some x := fun b x q => keep3 b x (keep2 b x q)
      have hoK := keep3 _ _ ho1
      have rK : RepL K (C.V σ) vs (Ls.map intsD) := rl.mono fun b x e n _ => ⟨keep4 b x e, n⟩
      dsimp only
      have hn2 : ¬ vs.toArray.size < 2 := by rw [List.size_toArray]; omega
      rw [if_neg hn2, if_neg hn2]
      refine wpAny_bind (kas_kind (T := Value.type "list") (by omega) (looks_list rK) (by decide) (by decide) ?_)
      have est : SortSt.mk' oneType' (vs.toArray.zip vs.toArray) #[] 7 none = kas_st oneType' (pairsOf vs) (List.toArray (List.range vs.length)) := by
        have e := kas_range (pairsOf vs)
        rw [pairsOf_size] at e
        show SortSt.mk' oneType' (pairsOf vs) #[] 7 none = SortSt.mk' oneType' ((List.toArray (List.range vs.length)).map (kas_item (pairsOf vs))) #[] 7 none
        rw [e]
      have gd : ∀ i, i < Ls.length → Ls.getD i [] ∈ Ls := fun i hi => by
        rw [List.getD_eq_getElem?_getD, List.getElem?_eq_getElem hi]; exact List.getElem_mem hi
      have tr := tr_sort (r := fun i => rk (Ls.getD i [])) (n := vs.length) (fun i j hi hj e => by
        have e' := hinj _ (gd i (by omega)) _ (gd j (by omega)) e
        rw [List.getD_eq_getElem?_getD, List.getElem?_eq_getElem (by omega), List.getD_eq_getElem?_getD, List.getElem?_eq_getElem (by omega)] at e'
        have hpw := List.pairwise_iff_getElem.mp hnd
        rcases Nat.lt_trichotomy i j with z | z | z
        · exact absurd e' (hpw i j (by omega) (by omega) z)
        · exact z
        · exact absurd e'.symm (hpw j i (by omega) (by omega) z)) (by omega)
      have ask : (kas_sort vs.length).kasWp (kas_cmp C.prog C.w A.in1.in1 oneType' (pairsOf vs)) (fun q s' => s' = { s with heap := K } ∧ Pm vs.length q ∧ Srt (fun i => rk (Ls.getD i [])) q vs.length) { s with heap := K } := by
        refine wp_of_tr (fun i j Kc hi hj hK => ?_) (tr.mono fun q hq => ⟨rfl, hq⟩)
        unfold kas_cmp
        rw [kas_item_eq, kas_item_eq]
        obtain ⟨v, ev, qv⟩ := rK.get (k := i) (d := intsD (Ls.getD i [])) (by rw [List.getElem?_map, List.getD_eq_getElem?_getD, List.getElem?_eq_getElem (by omega)]; rfl)
        obtain ⟨u, eu, qu⟩ := rK.get (k := j) (d := intsD (Ls.getD j [])) (by rw [List.getElem?_map, List.getD_eq_getElem?_getD, List.getElem?_eq_getElem (by omega)]; rfl)
        have hu := rm.units
        refine key_lt (s := { s with heap := K }) (S := C.V σ) (xs := Ls.getD i []) (ys := Ls.getD j []) ?_ ?_ ?_ ?_
        · show A.units + 1 + 1 < cLine
          unfold cLine; omega
        · show Rep K _ (vs.getD i Value.none) _
          rw [List.getD_eq_getElem?_getD, ev]; exact qv
        · show Rep K _ (vs.getD j Value.none) _
          rw [List.getD_eq_getElem?_getD, eu]; exact qu
        · rw [hrk _ (gd i (by omega)) _ (gd j (by omega))]; exact hK
      have run := kas_runs (E := E) (Q := fun _ st' s' => ∃ q : Array Nat, arrOf st' = q.map (kas_item (pairsOf vs)) ∧ failedOf st' = none ∧ s' = { s with heap := K } ∧ Pm vs.length q ∧ Srt (fun i => rk (Ls.getD i [])) q vs.length)
        (by omega) (by omega) (fun q st' s' a1 a2 a3 a4 => ⟨q, a2, a3, a4⟩) ask
      rw [← est] at run
      refine wpAny_bind (wpAny_mono run ?_ fun _ _ e => e)
      rintro ⟨⟨⟩, st'⟩ _ ⟨q, har, hf, rfl, hq, hsrt⟩
      dsimp only
      have hout : (arrOf st').map (·.2) = List.toArray (q.toList.map fun i => vs.getD i Value.none) := by
        apply Array.toList_inj.mp
        rw [har, Array.map_map, Array.toList_map]
        exact List.map_congr_left fun i _ => by show (kas_item (pairsOf vs) i).2 = _; rw [kas_item_eq]
      rw [hout]
      have hql : q.toList.length = vs.length := by rw [Array.length_toList, hq.size]
      obtain ⟨c2, hc2⟩ : ∃ c2, (K.update (s.heap.objs.size + 1) (Obj.mapSeq fun _ => List.toArray (q.toList.map fun i => vs.getD i Value.none))).get? (s.heap.objs.size + 1) = some (seqObj "list" (List.toArray (q.toList.map fun i => vs.getD i Value.none)) c2) := ⟨_, get?_update_seq hoK fun _ => List.toArray (q.toList.map fun i => vs.getD i Value.none)⟩
      refine wpAny_bind (seqEpoch_at (s := { s with heap := K }) hoK rfl ?_)
      refine wpAny_bind (listUpdate_at (s := { s with heap := K }) hoK rfl ?_ (Nat.zero_le _) (by rw [List.size_toArray, List.length_map, hql]; omega))
      rw [hf]
      simp only [bne_self_eq_false, Bool.false_eq_true, if_false]
      have keep5 : ∀ b x, s.heap.get? b = some x → (K.update (s.heap.objs.size + 1) (Obj.mapSeq fun _ => List.toArray (q.toList.map fun i => vs.getD i Value.none))).get? b = some x := fun b x e => by
        have hlt : b < s.heap.objs.size := Heap.lt_size e
        rw [Heap.get?_update_ne _ _ _ _ (Nat.ne_of_lt (Nat.lt_succ_of_lt hlt))]; exact keep4 b x e
      have hpl : q.toList.Perm (List.range vs.length) := by simpa using Array.perm_iff_toList_perm.mp hq.perm
      have hmem : ∀ i ∈ q.toList, i < Ls.length := fun i hi => by have := List.mem_range.mp (hpl.mem_iff.mp hi); omega
      have rfin : RepL (K.update (s.heap.objs.size + 1) (Obj.mapSeq fun _ => List.toArray (q.toList.map fun i => vs.getD i Value.none))) (C.V σ) vs (Ls.map intsD) := rl.mono fun b x e n _ => ⟨keep5 b x e, n⟩
      refine wpAny_pure ⟨_, rfl, wpAny_pure ⟨_, rfl, .list ((q.toList.map fun i => Ls.getD i []).map intsD), σ, h _ ?_ ?_, .list ⟨_, hc2, rfl, c2, rfl⟩ (size_notin o (Nat.le_succ _)) (repL_pick rfin hmem), .of_keeps o keep5⟩⟩
      · have := hpl.map (fun i => Ls.getD i [])
        rw [hlen, map_getD_range] at this
        exact this
      · rw [List.pairwise_map, List.pairwise_iff_getElem]
        intro i j hi hj hij
        have hs := hsrt i j (Nat.le_of_lt hij) (by omega)
        unfold key at hs
        have e1 : q.getD i 0 = q.toList[i] := by
          have : i < q.size := by simpa using hi
          simp [Array.getD, this]
        have e2 : q.getD j 0 = q.toList[j] := by
          have : j < q.size := by simpa using hj
          simp [Array.getD, this]
        rw [e1, e2] at hs
        exact hs
end
end Mine
namespace Mine
-- ordered diagrams of truth functions of three things
abbrev Node := Nat × Nat × Nat
noncomputable def knot (nds : List Node) (n : Nat) : Node := if n < 2 then (3, n, n) else nds.getD (n - 2) (3, 0, 0)
noncomputable def ht (nds : List Node) (n : Nat) : Nat := 3 - (knot nds n).1
noncomputable def fn (nds : List Node) : Nat → Nat → List Nat
  | 0, n => [n]
  | k + 1, n => if ht nds n = k + 1 then fn nds k (knot nds n).2.1 ++ fn nds k (knot nds n).2.2 else fn nds k n ++ fn nds k n
structure WF (nds : List Node) : Prop where
  at_ : ∀ i nd, nds[i]? = some nd → nd.1 < 3 ∧ nd.2.1 < i + 2 ∧ nd.2.2 < i + 2 ∧ nd.2.1 ≠ nd.2.2 ∧ ht nds nd.2.1 < 3 - nd.1 ∧ ht nds nd.2.2 < 3 - nd.1
  nodup : nds.Nodup
theorem knot_leaf {nds : List Node} {n : Nat} (h : n < 2) : knot nds n = (3, n, n) := if_pos h
theorem ht_leaf {nds : List Node} {n : Nat} (h : n < 2) : ht nds n = 0 := by simp [ht, knot_leaf h]
theorem knot_node {nds : List Node} {n : Nat} (h2 : 2 ≤ n) (hn : n < nds.length + 2) : nds[n - 2]? = some (knot nds n) := by
  rw [knot, if_neg (by omega), List.getD_eq_getElem?_getD, List.getElem?_eq_getElem (by omega)]; rfl
theorem WF.node {nds : List Node} (w : WF nds) {n : Nat} (h2 : 2 ≤ n) (hn : n < nds.length + 2) :
    (knot nds n).1 < 3 ∧ (knot nds n).2.1 < n ∧ (knot nds n).2.2 < n ∧ (knot nds n).2.1 ≠ (knot nds n).2.2 ∧ ht nds (knot nds n).2.1 < ht nds n ∧ ht nds (knot nds n).2.2 < ht nds n := by
  have h := w.at_ _ _ (knot_node h2 hn)
  have e : n - 2 + 2 = n := by omega
  rw [e] at h
  exact h
theorem ht_pos {nds : List Node} (w : WF nds) {n : Nat} (h2 : 2 ≤ n) (hn : n < nds.length + 2) : 0 < ht nds n := by
  have := (w.node h2 hn).1; unfold ht; omega
theorem ht_zero {nds : List Node} (w : WF nds) {n : Nat} (hn : n < nds.length + 2) (h : ht nds n = 0) : n < 2 := by
  rcases Nat.lt_or_ge n 2 with z | z
  · exact z
  · have := ht_pos w z hn; omega
theorem ht_le (nds : List Node) (n : Nat) : ht nds n ≤ 3 := by unfold ht; omega
theorem fnLen (nds : List Node) : ∀ k n, (fn nds k n).length = 2 ^ k
  | 0, _ => rfl
  | k + 1, n => by
    have ih := fnLen nds k
    rw [fn]; split <;> simp only [List.length_append, ih, Nat.pow_succ] <;> omega
theorem fn_up {nds : List Node} {k n : Nat} (h : ht nds n ≤ k) : fn nds (k + 1) n = fn nds k n ++ fn nds k n := by rw [fn, if_neg (by omega)]
theorem fn_top {nds : List Node} {k n : Nat} (h : ht nds n = k + 1) : fn nds (k + 1) n = fn nds k (knot nds n).2.1 ++ fn nds k (knot nds n).2.2 := by rw [fn, if_pos h]
theorem fn_leaf {nds : List Node} {n : Nat} (h : n < 2) : ∀ k, fn nds k n = List.replicate (2 ^ k) n
  | 0 => rfl
  | k + 1 => by rw [fn_up (by rw [ht_leaf h]; omega), fn_leaf h k, List.replicate_append_replicate, Nat.pow_succ]; congr 1; omega
theorem fn_bits {nds : List Node} (w : WF nds) : ∀ k n, n < nds.length + 2 → ht nds n ≤ k → ∀ c ∈ fn nds k n, c < 2
  | 0, n, hn, hh, c, hc => by
    have := ht_zero w hn (by omega)
    simp [fn] at hc; omega
  | k + 1, n, hn, hh, c, hc => by
    rcases Nat.lt_or_ge k (ht nds n) with z | z
    · have e : ht nds n = k + 1 := by omega
      have h2 : 2 ≤ n := by
        rcases Nat.lt_or_ge n 2 with y | y
        · rw [ht_leaf y] at e; omega
        · exact y
      have hw := w.node h2 hn
      rw [fn_top e] at hc
      rcases List.mem_append.mp hc with hc | hc
      · exact fn_bits w k _ (by omega) (by omega) c hc
      · exact fn_bits w k _ (by omega) (by omega) c hc
    · rw [fn_up z] at hc
      rcases List.mem_append.mp hc with hc | hc <;> exact fn_bits w k n hn z c hc
theorem app_inj {a b c d : List Nat} (h : a.length = c.length) (e : a ++ b = c ++ d) : a = c ∧ b = d := List.append_inj e h
/-- one number, one function -/
theorem fn_inj {nds : List Node} (w : WF nds) : ∀ k n m, n < nds.length + 2 → m < nds.length + 2 → ht nds n ≤ k → ht nds m ≤ k → fn nds k n = fn nds k m → n = m
  | 0, n, m, _, _, _, _, e => by simpa [fn] using e
  | k + 1, n, m, hn, hm, hhn, hhm, e => by
    have big : ∀ {x}, ht nds x = k + 1 → x < nds.length + 2 → 2 ≤ x := fun {x} e _ => by
      rcases Nat.lt_or_ge x 2 with y | y
      · rw [ht_leaf y] at e; omega
      · exact y
    rcases Nat.lt_or_ge k (ht nds n) with z | z <;> rcases Nat.lt_or_ge k (ht nds m) with y | y
    · have e1 : ht nds n = k + 1 := by omega
      have e2 : ht nds m = k + 1 := by omega
      have wn := w.node (big e1 hn) hn
      have wm := w.node (big e2 hm) hm
      rw [fn_top e1, fn_top e2] at e
      obtain ⟨q1, q2⟩ := app_inj (by rw [fnLen, fnLen]) e
      have i1 := fn_inj w k _ _ (by omega) (by omega) (by omega) (by omega) q1
      have i2 := fn_inj w k _ _ (by omega) (by omega) (by omega) (by omega) q2
      have i0 : (knot nds n).1 = (knot nds m).1 := by unfold ht at e1 e2; omega
      have ek : knot nds n = knot nds m := by
        rw [show knot nds n = ((knot nds n).1, (knot nds n).2.1, (knot nds n).2.2) from rfl, i0, i1, i2]
      have k1 := knot_node (big e1 hn) hn
      have k2 := knot_node (big e2 hm) hm
      rw [ek, ← k2] at k1
      have hb1 := big e1 hn
      have hb2 := big e2 hm
      have := (List.getElem?_inj (by omega) w.nodup).mp k1
      omega
    · have e1 : ht nds n = k + 1 := by omega
      have wn := w.node (big e1 hn) hn
      rw [fn_top e1, fn_up y] at e
      obtain ⟨q1, q2⟩ := app_inj (by rw [fnLen, fnLen]) e
      have i1 := fn_inj w k _ _ (by omega) (by omega) (by omega) (by omega) q1
      have i2 := fn_inj w k _ _ (by omega) (by omega) (by omega) (by omega) q2
      exact absurd (i1.trans i2.symm) wn.2.2.2.1
    · have e1 : ht nds m = k + 1 := by omega
      have wn := w.node (big e1 hm) hm
      rw [fn_top e1, fn_up z] at e
      obtain ⟨q1, q2⟩ := app_inj (by rw [fnLen, fnLen]) e
      have i1 := fn_inj w k _ _ (by omega) (by omega) (by omega) (by omega) q1
      have i2 := fn_inj w k _ _ (by omega) (by omega) (by omega) (by omega) q2
      exact absurd (i1.symm.trans i2) wn.2.2.2.1
    · rw [fn_up z, fn_up y] at e
      obtain ⟨q1, _⟩ := app_inj (by rw [fnLen, fnLen]) e
      exact fn_inj w k _ _ hn hm z y q1
/-- the least list of a truth list -/
noncomputable def least : Nat → List Nat → List Nat
  | 0, V => V
  | k + 1, V => if V.take (2 ^ k) = V.drop (2 ^ k) then least k (V.take (2 ^ k)) else V
theorem least_fn {nds : List Node} (w : WF nds) : ∀ k n, n < nds.length + 2 → ht nds n ≤ k → least k (fn nds k n) = fn nds (ht nds n) n
  | 0, n, _, h => by have : ht nds n = 0 := by omega
                     rw [this]; rfl
  | k + 1, n, hn, h => by
    rcases Nat.lt_or_ge k (ht nds n) with z | z
    · have e : ht nds n = k + 1 := by omega
      have h2 : 2 ≤ n := by
        rcases Nat.lt_or_ge n 2 with y | y
        · rw [ht_leaf y] at e; omega
        · exact y
      have wn := w.node h2 hn
      rw [e, least, if_neg]
      rw [fn_top e, List.take_left' (fnLen ..), List.drop_left' (fnLen ..)]
      intro q
      exact wn.2.2.2.1 (fn_inj w k _ _ (by omega) (by omega) (by omega) (by omega) q)
    · rw [least, fn_up z, List.take_left' (fnLen ..), List.drop_left' (fnLen ..), if_pos rfl]
      exact least_fn w k n hn z
-- more nodes behind
theorem knot_ext {nds : List Node} (ext : List Node) {n : Nat} (hn : n < nds.length + 2) : knot (nds ++ ext) n = knot nds n := by
  unfold knot
  split
  · rfl
  · rw [List.getD_eq_getElem?_getD, List.getD_eq_getElem?_getD, List.getElem?_append_left (by omega)]
theorem ht_ext {nds : List Node} (ext : List Node) {n : Nat} (hn : n < nds.length + 2) : ht (nds ++ ext) n = ht nds n := by rw [ht, knot_ext ext hn]; rfl
theorem knot_valid {nds : List Node} (w : WF nds) {n : Nat} (hn : n < nds.length + 2) : (knot nds n).2.1 < nds.length + 2 ∧ (knot nds n).2.2 < nds.length + 2 := by
  rcases Nat.lt_or_ge n 2 with y | y
  · rw [knot_leaf y]; exact ⟨hn, hn⟩
  · have := w.node y hn; omega
theorem fn_ext {nds : List Node} (w : WF nds) (ext : List Node) : ∀ k n, n < nds.length + 2 → fn (nds ++ ext) k n = fn nds k n
  | 0, _, _ => rfl
  | k + 1, n, hn => by
    have kv := knot_valid w hn
    rw [fn, fn, ht_ext ext hn, knot_ext ext hn, fn_ext w ext k _ kv.1, fn_ext w ext k _ kv.2, fn_ext w ext k n hn]
theorem wf_snoc {nds : List Node} (w : WF nds) {nd : Node} (h : nd.1 < 3 ∧ nd.2.1 < nds.length + 2 ∧ nd.2.2 < nds.length + 2 ∧ nd.2.1 ≠ nd.2.2 ∧ ht nds nd.2.1 < 3 - nd.1 ∧ ht nds nd.2.2 < 3 - nd.1) (hm : nd ∉ nds) : WF (nds ++ [nd]) := by
  refine ⟨fun i x e => ?_, ?_⟩
  · rcases Nat.lt_or_ge i nds.length with z | z
    · rw [List.getElem?_append_left z] at e
      have := w.at_ i x e
      rw [ht_ext _ (by omega), ht_ext _ (by omega)]; exact this
    · rw [List.getElem?_append_right z] at e
      have : i - nds.length = 0 := by
        rcases Nat.eq_zero_or_pos (i - nds.length) with y | y
        · exact y
        · rw [List.getElem?_eq_none (show [nd].length ≤ _ from y)] at e; cases e
      rw [this] at e
      cases e
      have e : i = nds.length := by omega
      subst e
      rw [ht_ext _ h.2.1, ht_ext _ h.2.2.1]; exact h
  · rw [List.nodup_append]
    refine ⟨w.nodup, by simp, fun a ha b hb => ?_⟩
    rw [List.mem_singleton.mp hb]
    exact fun z => hm (z ▸ ha)
theorem knot_snoc (nds : List Node) (nd : Node) : knot (nds ++ [nd]) (nds.length + 2) = nd := by
  rw [knot, if_neg (by omega), List.getD_eq_getElem?_getD]; simp
-- blocks
noncomputable def Blk (j : Nat) (b V : List Nat) : Prop := ∃ q, q * 2 ^ j + 2 ^ j ≤ V.length ∧ b = (V.drop (q * 2 ^ j)).take (2 ^ j)
theorem Blk.left {j : Nat} {b V W : List Nat} (h : Blk j b V) : Blk j b (V ++ W) := by
  obtain ⟨q, h1, h2⟩ := h
  have tp := Nat.two_pow_pos j
  refine ⟨q, by simp; omega, ?_⟩
  rw [List.drop_append_of_le_length (by omega), List.take_append_of_le_length (by simp; omega)]
  exact h2
theorem Blk.right {i j : Nat} {b V W : List Nat} (hV : V.length = 2 ^ i) (hj : j ≤ i) (h : Blk j b W) : Blk j b (V ++ W) := by
  obtain ⟨q, h1, h2⟩ := h
  obtain ⟨d, rfl⟩ : ∃ d, i = j + d := ⟨i - j, by omega⟩
  refine ⟨2 ^ d + q, ?_, ?_⟩
  · rw [List.length_append, hV, Nat.add_mul, Nat.pow_add, Nat.mul_comm (2 ^ d)]; omega
  · have : (2 ^ d + q) * 2 ^ j = V.length + q * 2 ^ j := by rw [hV, Nat.add_mul, Nat.pow_add, Nat.mul_comm (2 ^ d)]
    rw [this, ← List.drop_drop, List.drop_left]
    exact h2
theorem Blk.self {j : Nat} {V : List Nat} (h : V.length = 2 ^ j) : Blk j V V := ⟨0, by omega, by simp [← h]⟩
/-- each block of a function is one of the numbers below -/
theorem blk_fn {nds : List Node} (w : WF nds) {j : Nat} {b : List Nat} : ∀ k n, j ≤ k → n < nds.length + 2 → ht nds n ≤ k → Blk j b (fn nds k n) → ∃ m, m < nds.length + 2 ∧ ht nds m ≤ j ∧ b = fn nds j m
  | 0, n, hj, hn, hh, h => by
    obtain ⟨q, h1, h2⟩ := h
    have : j = 0 := by omega
    subst this
    rw [fnLen] at h1
    have : q = 0 := by simp at h1; omega
    subst this
    exact ⟨n, hn, hh, by simpa [fn] using h2⟩
  | k + 1, n, hj, hn, hh, h => by
    rcases Nat.eq_or_lt_of_le hj with rfl | hj
    · obtain ⟨q, h1, h2⟩ := h
      rw [fnLen] at h1
      have : q = 0 := by
        rcases Nat.eq_zero_or_pos q with z | z
        · exact z
        · have := Nat.mul_le_mul_right (2 ^ (k + 1)) z
          have tp := Nat.two_pow_pos (k + 1)
          omega
      subst this
      refine ⟨n, hn, hh, ?_⟩
      rw [h2, Nat.zero_mul, List.drop_zero, List.take_of_length_le (by rw [fnLen]; omega)]
    · have split : ∀ X Y : List Nat, X.length = 2 ^ k → Y.length = 2 ^ k → Blk j b (X ++ Y) → Blk j b X ∨ Blk j b Y := by
        intro X Y hX hY hb
        obtain ⟨q, h1, h2⟩ := hb
        have tp := Nat.two_pow_pos j
        obtain ⟨d, rfl⟩ : ∃ d, k = j + d := ⟨k - j, by omega⟩
        rw [Nat.pow_add, Nat.mul_comm] at hX hY
        rcases Nat.lt_or_ge q (2 ^ d) with z | z
        · left
          have hq : q * 2 ^ j + 2 ^ j ≤ 2 ^ d * 2 ^ j := by
            have := Nat.mul_le_mul_right (2 ^ j) z
            rw [Nat.succ_mul] at this; exact this
          refine ⟨q, by omega, ?_⟩
          rw [List.drop_append_of_le_length (by omega), List.take_append_of_le_length (by simp; omega)] at h2
          exact h2
        · right
          obtain ⟨e, rfl⟩ : ∃ e, q = 2 ^ d + e := ⟨q - 2 ^ d, by omega⟩
          rw [Nat.add_mul] at h1 h2
          refine ⟨e, by rw [List.length_append] at h1; omega, ?_⟩
          rw [← hX, ← List.drop_drop, List.drop_left] at h2
          exact h2
      rcases Nat.lt_or_ge k (ht nds n) with z | z
      · have e : ht nds n = k + 1 := by omega
        have h2 : 2 ≤ n := by
          rcases Nat.lt_or_ge n 2 with y | y
          · rw [ht_leaf y] at e; omega
          · exact y
        have wn := w.node h2 hn
        rw [fn_top e] at h
        rcases split _ _ (fnLen ..) (fnLen ..) h with h | h
        · exact blk_fn w k _ (by omega) (by omega) (by omega) h
        · exact blk_fn w k _ (by omega) (by omega) (by omega) h
      · rw [fn_up z] at h
        rcases split _ _ (fnLen ..) (fnLen ..) h with h | h <;> exact blk_fn w k n (by omega) hn z h
end Mine
namespace Mine
noncomputable def cmb (way a b : Nat) : Nat := way / 2 ^ (2 * a + b) % 2
noncomputable def idx : List Node → Node → Option Nat
  | [], _ => none
  | x :: l, nd => if x = nd then some 0 else (idx l nd).map (· + 1)
theorem idx_some : ∀ {l : List Node} {nd : Node} {i : Nat}, idx l nd = some i → l[i]? = some nd
  | [], _, _, h => by cases h
  | x :: l, nd, i, h => by
    rw [idx] at h
    split at h
    · rename_i e; cases h; rw [e]; rfl
    · cases hl : idx l nd with
      | none => rw [hl] at h; cases h
      | some j => rw [hl] at h; cases h; exact (List.getElem?_cons_succ ..).trans (idx_some hl)
theorem idx_none : ∀ {l : List Node} {nd : Node}, idx l nd = none → nd ∉ l
  | [], _, _ => by simp
  | x :: l, nd, h => by
    rw [idx] at h
    split at h
    · cases h
    · rename_i e
      cases hl : idx l nd with
      | none => intro z; rcases List.mem_cons.mp z with rfl | z
                · exact e rfl
                · exact idx_none hl z
      | some j => rw [hl] at h; cases h
noncomputable def ins (nds : List Node) (nd : Node) : Nat × List Node := match idx nds nd with
  | some i => (i + 2, nds)
  | none => (nds.length + 2, nds ++ [nd])
noncomputable def sides (nds : List Node) (t a : Nat) : Nat × Nat := if (knot nds a).1 > t then (a, a) else ((knot nds a).2.1, (knot nds a).2.2)
noncomputable def both (way : Nat) : Nat → List Node → Nat → Nat → Nat × List Node
  | 0, nds, a, b => (cmb way a b, nds)
  | k + 1, nds, a, b => if a < 2 ∧ b < 2 then (cmb way a b, nds) else
    if (both way k nds (sides nds (min (knot nds a).1 (knot nds b).1) a).1 (sides nds (min (knot nds a).1 (knot nds b).1) b).1).1 =
       (both way k (both way k nds (sides nds (min (knot nds a).1 (knot nds b).1) a).1 (sides nds (min (knot nds a).1 (knot nds b).1) b).1).2 (sides nds (min (knot nds a).1 (knot nds b).1) a).2 (sides nds (min (knot nds a).1 (knot nds b).1) b).2).1 then
      (both way k (both way k nds (sides nds (min (knot nds a).1 (knot nds b).1) a).1 (sides nds (min (knot nds a).1 (knot nds b).1) b).1).2 (sides nds (min (knot nds a).1 (knot nds b).1) a).2 (sides nds (min (knot nds a).1 (knot nds b).1) b).2)
    else ins (both way k (both way k nds (sides nds (min (knot nds a).1 (knot nds b).1) a).1 (sides nds (min (knot nds a).1 (knot nds b).1) b).1).2 (sides nds (min (knot nds a).1 (knot nds b).1) a).2 (sides nds (min (knot nds a).1 (knot nds b).1) b).2).2
      (min (knot nds a).1 (knot nds b).1, (both way k nds (sides nds (min (knot nds a).1 (knot nds b).1) a).1 (sides nds (min (knot nds a).1 (knot nds b).1) b).1).1,
       (both way k (both way k nds (sides nds (min (knot nds a).1 (knot nds b).1) a).1 (sides nds (min (knot nds a).1 (knot nds b).1) b).1).2 (sides nds (min (knot nds a).1 (knot nds b).1) a).2 (sides nds (min (knot nds a).1 (knot nds b).1) b).2).1)
structure Good (way k : Nat) (nds : List Node) (a b : Nat) (M : Nat) (r : Nat × List Node) : Prop where
  ext : ∃ e, r.2 = nds ++ e ∧ e.length + 1 ≤ 2 ^ k
  wf : WF r.2
  lt : r.1 < r.2.length + 2
  ht : ht r.2 r.1 ≤ M
  fn : fn r.2 M r.1 = List.zipWith (cmb way) (fn nds M a) (fn nds M b)
  blk : ∀ n, nds.length + 2 ≤ n → n < r.2.length + 2 → Mine.ht r.2 n ≤ M ∧ Blk (Mine.ht r.2 n) (Mine.fn r.2 (Mine.ht r.2 n) n) (Mine.fn r.2 M r.1)
theorem Good.up1 {way k : Nat} {nds : List Node} {a b M : Nat} {r : Nat × List Node} (g : Good way k nds a b M r) (ha : Mine.ht nds a ≤ M) (hb : Mine.ht nds b ≤ M) : Good way k nds a b (M + 1) r := by
  refine ⟨g.ext, g.wf, g.lt, Nat.le_succ_of_le g.ht, ?_, fun n h1 h2 => ?_⟩
  · rw [fn_up g.ht, fn_up ha, fn_up hb, List.zipWith_append (by rw [fnLen, fnLen]), ← g.fn]
  · obtain ⟨q1, q2⟩ := g.blk n h1 h2
    refine ⟨Nat.le_succ_of_le q1, ?_⟩
    rw [fn_up g.ht]; exact q2.left
theorem Good.up {way k : Nat} {nds : List Node} {a b M : Nat} {r : Nat × List Node} (g : Good way k nds a b M r) (ha : Mine.ht nds a ≤ M) (hb : Mine.ht nds b ≤ M) : ∀ d, Good way k nds a b (M + d) r
  | 0 => g
  | d + 1 => (Good.up g ha hb d).up1 (by omega) (by omega)
theorem cmb_lt (way a b : Nat) : cmb way a b < 2 := Nat.mod_lt _ (by decide)
theorem zip_rep (f : Nat → Nat → Nat) (a b : Nat) : ∀ n, List.zipWith f (List.replicate n a) (List.replicate n b) = List.replicate n (f a b)
  | 0 => rfl
  | n + 1 => by rw [List.replicate_succ, List.replicate_succ, List.replicate_succ, List.zipWith_cons_cons, zip_rep f a b n]
theorem good_leaf {way k : Nat} {nds : List Node} (w : WF nds) {a b M : Nat} (ha : a < 2) (hb : b < 2) : Good way k nds a b M (cmb way a b, nds) := by
  have hc := cmb_lt way a b
  refine ⟨⟨[], by simp, Nat.two_pow_pos k⟩, w, by show cmb way a b < _; omega, ?_, ?_, fun n h1 h2 => ?_⟩
  · show Mine.ht nds (cmb way a b) ≤ M
    rw [ht_leaf hc]; omega
  · show Mine.fn nds M (cmb way a b) = _
    rw [fn_leaf hc, fn_leaf ha, fn_leaf hb, zip_rep]
  · have h2 : n < nds.length + 2 := h2
    omega
theorem sides_ok {nds : List Node} (w : WF nds) {a t M : Nat} (ha : a < nds.length + 2) (ht3 : t < 3) (hM : 3 - t = M + 1) (hle : t ≤ (knot nds a).1) :
    (sides nds t a).1 < nds.length + 2 ∧ (sides nds t a).2 < nds.length + 2 ∧ ht nds (sides nds t a).1 ≤ M ∧ ht nds (sides nds t a).2 ≤ M ∧ fn nds (M + 1) a = fn nds M (sides nds t a).1 ++ fn nds M (sides nds t a).2 := by
  unfold sides
  split
  · have : ht nds a ≤ M := by unfold ht; omega
    exact ⟨ha, ha, this, this, fn_up this⟩
  · have e : ht nds a = M + 1 := by unfold ht; omega
    have h2 : 2 ≤ a := by
      rcases Nat.lt_or_ge a 2 with y | y
      · rw [ht_leaf y] at e; omega
      · exact y
    have wn := w.node h2 ha
    exact ⟨by show (knot nds a).2.1 < _; omega, by show (knot nds a).2.2 < _; omega, by show ht nds (knot nds a).2.1 ≤ _; omega, by show ht nds (knot nds a).2.2 ≤ _; omega, fn_top e⟩
theorem good_both (way : Nat) : ∀ (k : Nat) (nds : List Node) (a b : Nat), WF nds → a < nds.length + 2 → b < nds.length + 2 → ht nds a ≤ k → ht nds b ≤ k → Good way k nds a b (max (ht nds a) (ht nds b)) (both way k nds a b)
  | 0, nds, a, b, w, ha, hb, h1, h2 => good_leaf w (ht_zero w ha (by omega)) (ht_zero w hb (by omega))
  | k + 1, nds, a, b, w, ha, hb, h1, h2 => by
    rw [both]
    split
    · rename_i h; exact good_leaf w h.1 h.2
    rename_i hnl
    have hta : (knot nds a).1 ≤ 3 := by
      rcases Nat.lt_or_ge a 2 with y | y
      · rw [knot_leaf y]; exact Nat.le_refl 3
      · have := (w.node y ha).1; omega
    have htb : (knot nds b).1 ≤ 3 := by
      rcases Nat.lt_or_ge b 2 with y | y
      · rw [knot_leaf y]; exact Nat.le_refl 3
      · have := (w.node y hb).1; omega
    have ht3 : min (knot nds a).1 (knot nds b).1 < 3 := by
      rcases Nat.lt_or_ge a 2 with y | y
      · rcases Nat.lt_or_ge b 2 with z | z
        · exact absurd ⟨y, z⟩ hnl
        · have := (w.node z hb).1; omega
      · have := (w.node y ha).1; omega
    have hMe : max (ht nds a) (ht nds b) = 3 - min (knot nds a).1 (knot nds b).1 := by unfold ht; omega
    generalize ht' : min (knot nds a).1 (knot nds b).1 = t at ht3 hMe ⊢
    obtain ⟨M, hM⟩ : ∃ M, 3 - t = M + 1 := ⟨3 - t - 1, by omega⟩
    rw [hMe, hM]
    have hMk : M ≤ k := by omega
    obtain ⟨a1, a2, a3, a4, a5⟩ := sides_ok w ha ht3 hM (by omega)
    obtain ⟨b1, b2, b3, b4, b5⟩ := sides_ok w hb ht3 hM (by omega)
    generalize sides nds t a = sa at *
    generalize sides nds t b = sb at *
    have gx := good_both way k nds sa.1 sb.1 w a1 b1 (by omega) (by omega)
    have gx := gx.up (Nat.le_max_left _ _) (Nat.le_max_right _ _) (M - max (ht nds sa.1) (ht nds sb.1))
    rw [show max (ht nds sa.1) (ht nds sb.1) + (M - max (ht nds sa.1) (ht nds sb.1)) = M by omega] at gx
    generalize both way k nds sa.1 sb.1 = x at gx ⊢
    obtain ⟨m0, n1⟩ := x
    obtain ⟨e1, he1, hc1⟩ := gx.ext
    dsimp only at he1 ⊢
    subst he1
    have w1 : WF (nds ++ e1) := gx.wf
    have hl1 : (nds ++ e1).length = nds.length + e1.length := List.length_append
    have gy := good_both way k (nds ++ e1) sa.2 sb.2 w1 (by omega) (by omega) (by rw [ht_ext e1 a2]; omega) (by rw [ht_ext e1 b2]; omega)
    have gy := gy.up (Nat.le_max_left _ _) (Nat.le_max_right _ _) (M - max (ht (nds ++ e1) sa.2) (ht (nds ++ e1) sb.2))
    rw [show max (ht (nds ++ e1) sa.2) (ht (nds ++ e1) sb.2) + (M - max (ht (nds ++ e1) sa.2) (ht (nds ++ e1) sb.2)) = M by rw [ht_ext e1 a2, ht_ext e1 b2]; omega] at gy
    generalize both way k (nds ++ e1) sa.2 sb.2 = y at gy ⊢
    obtain ⟨m1, n2⟩ := y
    obtain ⟨e2, he2, hc2⟩ := gy.ext
    dsimp only at he2 ⊢
    subst he2
    have w2 : WF (nds ++ e1 ++ e2) := gy.wf
    have hl2 : (nds ++ e1 ++ e2).length = nds.length + e1.length + e2.length := by rw [List.length_append, hl1]
    have l0 : m0 < (nds ++ e1).length + 2 := gx.lt
    have l1 : m1 < (nds ++ e1 ++ e2).length + 2 := gy.lt
    have h0 : ht (nds ++ e1 ++ e2) m0 ≤ M := by rw [ht_ext e2 l0]; exact gx.ht
    have h1' : ht (nds ++ e1 ++ e2) m1 ≤ M := gy.ht
    have f0 : fn (nds ++ e1 ++ e2) M m0 = List.zipWith (cmb way) (fn nds M sa.1) (fn nds M sb.1) := by rw [fn_ext w1 e2 M m0 l0]; exact gx.fn
    have f1 : fn (nds ++ e1 ++ e2) M m1 = List.zipWith (cmb way) (fn nds M sa.2) (fn nds M sb.2) := by
      have := gy.fn
      rw [fn_ext w e1 M _ a2, fn_ext w e1 M _ b2] at this
      exact this
    have bl : ∀ n, nds.length + 2 ≤ n → n < (nds ++ e1 ++ e2).length + 2 → ht (nds ++ e1 ++ e2) n ≤ M ∧ Blk (ht (nds ++ e1 ++ e2) n) (fn (nds ++ e1 ++ e2) (ht (nds ++ e1 ++ e2) n) n) (fn (nds ++ e1 ++ e2) M m0 ++ fn (nds ++ e1 ++ e2) M m1) := by
      intro n q1 q2
      rcases Nat.lt_or_ge n ((nds ++ e1).length + 2) with z | z
      · have := gx.blk n q1 z
        rw [ht_ext e2 z, fn_ext w1 e2 _ n z, fn_ext w1 e2 M m0 l0]
        exact ⟨this.1, this.2.left⟩
      · have := gy.blk n z q2
        exact ⟨this.1, this.2.right (fnLen ..) this.1⟩
    have fz : fn (nds ++ e1 ++ e2) M m0 ++ fn (nds ++ e1 ++ e2) M m1 = List.zipWith (cmb way) (fn nds (M + 1) a) (fn nds (M + 1) b) := by
      rw [a5, b5, List.zipWith_append (by rw [fnLen, fnLen]), f0, f1]
    have hpow : 2 ^ (k + 1) = 2 ^ k + 2 ^ k := by rw [Nat.pow_succ]; omega
    split
    · rename_i hm
      subst hm
      refine ⟨⟨e1 ++ e2, by simp, by rw [List.length_append]; omega⟩, w2, l1, Nat.le_succ_of_le h1', ?_, fun n q1 q2 => ?_⟩
      · show fn (nds ++ e1 ++ e2) (M + 1) m0 = _
        rw [fn_up h0]; exact fz
      · have := bl n q1 q2
        refine ⟨Nat.le_succ_of_le this.1, ?_⟩
        show Blk _ _ (fn (nds ++ e1 ++ e2) (M + 1) m0)
        rw [fn_up h0]; exact this.2
    · rename_i hm
      unfold ins
      cases hi : idx (nds ++ e1 ++ e2) (t, m0, m1) with
      | some i =>
        dsimp only
        have hg := idx_some hi
        have hil : i < (nds ++ e1 ++ e2).length := (List.getElem?_eq_some_iff.mp hg).1
        have hk : knot (nds ++ e1 ++ e2) (i + 2) = (t, m0, m1) := by
          rw [knot, if_neg (by omega), List.getD_eq_getElem?_getD, show i + 2 - 2 = i by omega, hg]; rfl
        have hh : ht (nds ++ e1 ++ e2) (i + 2) = M + 1 := by rw [ht, hk]; exact hM
        have hf : fn (nds ++ e1 ++ e2) (M + 1) (i + 2) = fn (nds ++ e1 ++ e2) M m0 ++ fn (nds ++ e1 ++ e2) M m1 := by rw [fn_top hh, hk]
        refine ⟨⟨e1 ++ e2, by simp, by rw [List.length_append]; omega⟩, w2, by show i + 2 < (nds ++ e1 ++ e2).length + 2; omega, Nat.le_of_eq hh, ?_, fun n q1 q2 => ?_⟩
        · show fn (nds ++ e1 ++ e2) (M + 1) (i + 2) = _
          rw [hf]; exact fz
        · have := bl n q1 q2
          refine ⟨Nat.le_succ_of_le this.1, ?_⟩
          show Blk _ _ (fn (nds ++ e1 ++ e2) (M + 1) (i + 2))
          rw [hf]; exact this.2
      | none =>
        dsimp only
        have hnm := idx_none hi
        have w3 : WF (nds ++ e1 ++ e2 ++ [(t, m0, m1)]) := wf_snoc w2 ⟨ht3, by show m0 < _; omega, l1, hm, by show ht _ m0 < 3 - t; omega, by show ht _ m1 < 3 - t; omega⟩ hnm
        have hk := knot_snoc (nds ++ e1 ++ e2) (t, m0, m1)
        have hh : ht (nds ++ e1 ++ e2 ++ [(t, m0, m1)]) ((nds ++ e1 ++ e2).length + 2) = M + 1 := by rw [ht, hk]; exact hM
        have hf : fn (nds ++ e1 ++ e2 ++ [(t, m0, m1)]) (M + 1) ((nds ++ e1 ++ e2).length + 2) = fn (nds ++ e1 ++ e2) M m0 ++ fn (nds ++ e1 ++ e2) M m1 := by
          rw [fn_top hh, hk]
          show fn _ M m0 ++ fn _ M m1 = _
          rw [fn_ext w2 _ M m0 (by omega), fn_ext w2 _ M m1 l1]
        refine ⟨⟨e1 ++ e2 ++ [(t, m0, m1)], by simp, by simp; omega⟩, w3, by show _ < (nds ++ e1 ++ e2 ++ [(t, m0, m1)]).length + 2; rw [List.length_append (bs := [(t, m0, m1)])]; exact Nat.add_lt_add_right (Nat.lt_succ_self _) 2, Nat.le_of_eq hh, ?_, fun n q1 q2 => ?_⟩
        · show fn (nds ++ e1 ++ e2 ++ [(t, m0, m1)]) (M + 1) ((nds ++ e1 ++ e2).length + 2) = _
          rw [hf]; exact fz
        · dsimp only at q2 ⊢
          rw [List.length_append] at q2
          rcases Nat.lt_or_ge n ((nds ++ e1 ++ e2).length + 2) with z | z
          · have := bl n q1 z
            rw [ht_ext _ z, fn_ext w2 _ _ n z, hf]
            exact ⟨Nat.le_succ_of_le this.1, this.2⟩
          · have : n = (nds ++ e1 ++ e2).length + 2 := by simp at q2 z ⊢; omega
            subst this
            rw [hh]
            exact ⟨Nat.le_refl _, Blk.self (fnLen ..)⟩
end Mine
namespace Mine
-- the rank of a list of noughts and ones
noncomputable def rkk : Nat → List Int → Int
  | 0, _ => 0
  | _ + 1, [] => 0
  | k + 1, x :: xs => (x + 1) * 3 ^ k + rkk k xs
noncomputable def Bits (L : List Int) : Prop := ∀ x ∈ L, x = 0 ∨ x = 1
theorem pow3_pos (k : Nat) : (0 : Int) < 3 ^ k := Int.pow_pos (by decide)
theorem rkk_bound : ∀ (k : Nat) (L : List Int), Bits L → 0 ≤ rkk k L ∧ rkk k L < 3 ^ k
  | 0, _, _ => by simp [rkk]
  | k + 1, [], _ => ⟨Int.le_refl _, pow3_pos _⟩
  | k + 1, x :: xs, h => by
    have ih := rkk_bound k xs fun y hy => h y (.tail _ hy)
    have hp := pow3_pos k
    rw [rkk, Int.pow_succ]
    generalize (3 : Int) ^ k = p at *
    rcases h x (.head _) with rfl | rfl <;> omega
theorem lex_rkk : ∀ (k : Nat) (L M : List Int), Bits L → Bits M → L.length ≤ k → M.length ≤ k → lexLt L M = decide (rkk k L < rkk k M)
  | 0, L, M, _, _, h1, h2 => by
    have e1 : L = [] := List.eq_nil_of_length_eq_zero (by omega)
    have e2 : M = [] := List.eq_nil_of_length_eq_zero (by omega)
    subst e1 e2; rfl
  | k + 1, [], [], _, _, _, _ => by simp [lexLt, rkk]
  | k + 1, [], y :: ys, _, hM, _, _ => by
    have ih := rkk_bound k ys fun z hz => hM z (.tail _ hz)
    have hp := pow3_pos k
    rw [lexLt, rkk, rkk]
    generalize (3 : Int) ^ k = p at *
    symm; rw [decide_eq_true_eq]
    rcases hM y (.head _) with rfl | rfl <;> omega
  | k + 1, x :: xs, [], hL, _, _, _ => by
    have ih := rkk_bound k xs fun z hz => hL z (.tail _ hz)
    have hp := pow3_pos k
    rw [lexLt, rkk, rkk]
    generalize (3 : Int) ^ k = p at *
    symm; rw [decide_eq_false_iff_not]
    rcases hL x (.head _) with rfl | rfl <;> omega
  | k + 1, x :: xs, y :: ys, hL, hM, h1, h2 => by
    have b1 := rkk_bound k xs fun z hz => hL z (.tail _ hz)
    have b2 := rkk_bound k ys fun z hz => hM z (.tail _ hz)
    have ih := lex_rkk k xs ys (fun z hz => hL z (.tail _ hz)) (fun z hz => hM z (.tail _ hz)) (by simpa using h1) (by simpa using h2)
    rw [lexLt, rkk, rkk, ih]
    generalize (3 : Int) ^ k = p at *
    rcases hL x (.head _) with rfl | rfl <;> rcases hM y (.head _) with rfl | rfl
    · rw [if_pos rfl]; congr 1; apply propext; constructor <;> intro z <;> omega
    · rw [if_neg (by decide)]; simp only [decide_eq_decide]; constructor <;> intro z <;> omega
    · rw [if_neg (by decide)]; simp only [decide_eq_decide]; constructor <;> intro z <;> omega
    · rw [if_pos rfl]; congr 1; apply propext; constructor <;> intro z <;> omega
theorem rkk_inj : ∀ (k : Nat) (L M : List Int), Bits L → Bits M → L.length ≤ k → M.length ≤ k → rkk k L = rkk k M → L = M
  | 0, L, M, _, _, h1, h2, _ => by
    have e1 : L = [] := List.eq_nil_of_length_eq_zero (by omega)
    have e2 : M = [] := List.eq_nil_of_length_eq_zero (by omega)
    rw [e1, e2]
  | k + 1, [], [], _, _, _, _, _ => rfl
  | k + 1, [], y :: ys, _, hM, _, _, e => by
    have ih := rkk_bound k ys fun z hz => hM z (.tail _ hz)
    have hp := pow3_pos k
    rw [rkk, rkk] at e
    generalize (3 : Int) ^ k = p at *
    rcases hM y (.head _) with rfl | rfl <;> omega
  | k + 1, x :: xs, [], hL, _, _, _, e => by
    have ih := rkk_bound k xs fun z hz => hL z (.tail _ hz)
    have hp := pow3_pos k
    rw [rkk, rkk] at e
    generalize (3 : Int) ^ k = p at *
    rcases hL x (.head _) with rfl | rfl <;> omega
  | k + 1, x :: xs, y :: ys, hL, hM, h1, h2, e => by
    have b1 := rkk_bound k xs fun z hz => hL z (.tail _ hz)
    have b2 := rkk_bound k ys fun z hz => hM z (.tail _ hz)
    have ih := rkk_inj k xs ys (fun z hz => hL z (.tail _ hz)) (fun z hz => hM z (.tail _ hz)) (by simpa using h1) (by simpa using h2)
    rw [rkk, rkk] at e
    generalize (3 : Int) ^ k = p at *
    rcases hL x (.head _) with rfl | rfl <;> rcases hM y (.head _) with rfl | rfl
    · rw [ih (by omega)]
    · exfalso; omega
    · exfalso; omega
    · rw [ih (by omega)]
-- the places
noncomputable def plc (nds : List Node) (i : Nat) : List (List Nat) := (List.range (i + 2)).map fun n => fn nds (ht nds n) n
theorem plc_succ (nds : List Node) (i : Nat) : plc nds (i + 1) = plc nds i ++ [fn nds (ht nds (i + 2)) (i + 2)] := by
  rw [plc, show i + 1 + 2 = (i + 2).succ from rfl, List.range_succ, List.map_append]; rfl
theorem plc_zero (nds : List Node) : plc nds 0 = [[0], [1]] := by
  have h0 : ht nds 0 = 0 := ht_leaf (by decide)
  have h1 : ht nds 1 = 0 := ht_leaf (by decide)
  show [fn nds (ht nds 0) 0, fn nds (ht nds 1) 1] = _
  rw [h0, h1]; rfl
theorem plc_at (nds : List Node) {i n : Nat} (h : n < i + 2) : (plc nds i)[n]? = some (fn nds (ht nds n) n) := by
  rw [plc, List.getElem?_map, List.getElem?_range h]; rfl
theorem rep_fn {nds : List Node} {n : Nat} : ∀ d, (List.replicate (2 ^ d) (fn nds (ht nds n) n)).flatten = fn nds (ht nds n + d) n
  | 0 => by simp
  | d + 1 => by
    rw [show ht nds n + (d + 1) = ht nds n + d + 1 from rfl, fn_up (Nat.le_add_right _ _), ← rep_fn d, ← List.flatten_append, List.replicate_append_replicate, Nat.pow_succ]
    congr 2; omega
theorem rep_fn' {nds : List Node} {n j : Nat} (h : ht nds n ≤ j) : (List.replicate (2 ^ j / (fn nds (ht nds n) n).length) (fn nds (ht nds n) n)).flatten = fn nds j n := by
  obtain ⟨d, rfl⟩ : ∃ d, j = ht nds n + d := ⟨j - ht nds n, by omega⟩
  rw [fnLen, Nat.pow_add, Nat.mul_div_cancel_left _ (Nat.two_pow_pos _), rep_fn]
noncomputable def nodesL (nds : List Node) : List (List Nat) := (List.range nds.length).map fun i => fn nds (ht nds (i + 2)) (i + 2)
theorem plc_drop (nds : List Node) : (plc nds nds.length).drop 2 = nodesL nds := by
  have : ∀ i, (plc nds i).drop 2 = (List.range i).map fun i => fn nds (ht nds (i + 2)) (i + 2) := by
    intro i
    induction i with
    | zero => rw [plc_zero]; rfl
    | succ i ih =>
      rw [plc_succ, List.drop_append_of_le_length (by simp [plc]), ih, List.range_succ, List.map_append]; rfl
  exact this _
theorem nodesL_nodup {nds : List Node} (w : WF nds) : (nodesL nds).Nodup := by
  unfold nodesL
  rw [List.nodup_iff_pairwise_ne, List.pairwise_map, List.pairwise_iff_getElem]
  intro i j hi hj hij e
  simp only [List.length_range] at hi hj
  simp only [List.getElem_range] at e
  have hl := congrArg List.length e
  rw [fnLen, fnLen] at hl
  have hh : ht nds (i + 2) = ht nds (j + 2) := (Nat.pow_right_inj (by decide)).mp hl
  rw [← hh] at e
  have := fn_inj w _ _ _ (by omega) (by omega) (Nat.le_refl _) (by omega) e
  omega
-- what is due
noncomputable def addD (due : List (List Nat)) (x : List Nat) : List (List Nat) := if x.length > 1 ∧ x ∉ due then due ++ [x] else due
theorem addD_mem {due : List (List Nat)} {x y : List Nat} : y ∈ addD due x ↔ y ∈ due ∨ (y = x ∧ x.length > 1) := by
  unfold addD
  split
  · rename_i h
    rw [List.mem_append, List.mem_singleton]
    exact ⟨fun z => z.imp id fun e => ⟨e, h.1⟩, fun z => z.imp id fun e => e.1⟩
  · rename_i h
    refine ⟨.inl, fun z => z.elim id fun ⟨e, hl⟩ => ?_⟩
    subst e
    exact Classical.byContradiction fun q => h ⟨hl, q⟩
theorem addD_nodup {due : List (List Nat)} {x : List Nat} (h : due.Nodup) : (addD due x).Nodup := by
  unfold addD
  split
  · rename_i hx
    rw [List.nodup_append]
    exact ⟨h, by simp, fun a ha b hb => by rw [List.mem_singleton.mp hb]; exact fun z => hx.2 (z ▸ ha)⟩
  · exact h
theorem foldD_mem {y : List Nat} : ∀ {l due : List (List Nat)}, y ∈ l.foldl addD due ↔ y ∈ due ∨ (y ∈ l ∧ y.length > 1)
  | [], due => by simp
  | x :: l, due => by
    rw [List.foldl_cons, foldD_mem, addD_mem, List.mem_cons]
    constructor
    · rintro ((h | ⟨rfl, h⟩) | ⟨h1, h2⟩)
      · exact .inl h
      · exact .inr ⟨.inl rfl, h⟩
      · exact .inr ⟨.inr h1, h2⟩
    · rintro (h | ⟨rfl | h1, h2⟩)
      · exact .inl (.inl h)
      · exact .inl (.inr ⟨rfl, h2⟩)
      · exact .inr ⟨h1, h2⟩
theorem foldD_nodup : ∀ {l due : List (List Nat)}, due.Nodup → (l.foldl addD due).Nodup
  | [], _, h => h
  | _ :: l, _, h => foldD_nodup (l := l) (addD_nodup h)
theorem foldD_len : ∀ (l due : List (List Nat)), (l.foldl addD due).length ≤ due.length + l.length
  | [], _ => by simp
  | x :: l, due => by
    have h1 := foldD_len l (addD due x)
    have h2 : (addD due x).length ≤ due.length + 1 := by unfold addD; split <;> simp
    rw [List.foldl_cons, List.length_cons]; omega
noncomputable def sizeBlocks (j : Nat) (V : List Nat) : List (List Nat) := (List.range (8 / 2 ^ j)).map fun q => least j ((V.drop (q * 2 ^ j)).take (2 ^ j))
noncomputable def blocksOf (V : List Nat) : List (List Nat) := [3, 2, 1].flatMap fun j => sizeBlocks j V
noncomputable def dueOf (truths : List (List Nat)) : List (List Nat) := (truths.flatMap blocksOf).foldl addD []
structure Inv (nds : List Node) (told : List Nat) (truths : List (List Nat)) : Prop where
  wf : WF nds
  val : ∀ n ∈ told, n < nds.length + 2
  tru : truths = told.map (fn nds 3)
  cov : ∀ n, 2 ≤ n → n < nds.length + 2 → ∃ V ∈ truths, Blk (ht nds n) (fn nds (ht nds n) n) V
theorem due_nodes {nds : List Node} {told : List Nat} {truths : List (List Nat)} (I : Inv nds told truths) (x : List Nat) : x ∈ nodesL nds ↔ x ∈ dueOf truths := by
  rw [dueOf, foldD_mem]
  have hnil : x ∉ ([] : List (List Nat)) := by simp
  constructor
  · intro h
    obtain ⟨i, hi, rfl⟩ := List.mem_map.mp h
    have hi := List.mem_range.mp hi
    have hp := ht_pos I.wf (n := i + 2) (by omega) (by omega)
    have hle := ht_le nds (i + 2)
    obtain ⟨V, hV, q, hq, hb⟩ := I.cov (i + 2) (by omega) (by omega)
    have hself := least_fn I.wf (ht nds (i + 2)) (i + 2) (by omega) (Nat.le_refl _)
    have hV8 : V.length = 8 := by
      rw [I.tru] at hV
      obtain ⟨n, _, rfl⟩ := List.mem_map.mp hV
      exact fnLen nds 3 n
    refine .inr ⟨List.mem_flatMap.mpr ⟨V, hV, List.mem_flatMap.mpr ⟨ht nds (i + 2), ?_, List.mem_map.mpr ⟨q, List.mem_range.mpr ?_, ?_⟩⟩⟩, ?_⟩
    · have : ht nds (i + 2) = 1 ∨ ht nds (i + 2) = 2 ∨ ht nds (i + 2) = 3 := by omega
      rcases this with e | e | e <;> rw [e] <;> decide
    · rw [hV8] at hq
      have tp := Nat.two_pow_pos (ht nds (i + 2))
      refine (Nat.lt_div_iff_mul_lt tp).mpr ?_
      have := Nat.mul_comm q (2 ^ ht nds (i + 2))
      omega
    · rw [← hb]; exact hself
    · rw [fnLen]
      exact Nat.one_lt_two_pow (by omega)
  · rintro (h | ⟨h, hl⟩)
    · exact absurd h hnil
    obtain ⟨V, hV, h⟩ := List.mem_flatMap.mp h
    obtain ⟨j, hj, h⟩ := List.mem_flatMap.mp h
    obtain ⟨q, hq, rfl⟩ := List.mem_map.mp h
    have hq := List.mem_range.mp hq
    have hj3 : j ≤ 3 := by simp at hj; omega
    rw [I.tru] at hV
    obtain ⟨n, hn, rfl⟩ := List.mem_map.mp hV
    have tp := Nat.two_pow_pos j
    have hq8 : q * 2 ^ j + 2 ^ j ≤ 8 := by
      have := Nat.mul_le_of_le_div _ _ _ (Nat.succ_le_of_lt hq)
      rw [Nat.succ_mul] at this; exact this
    obtain ⟨m, hm, hhm, hb⟩ := blk_fn I.wf (j := j) 3 n hj3 (I.val n hn) (ht_le _ _) ⟨q, by rw [fnLen]; exact hq8, rfl⟩
    rw [hb, least_fn I.wf j m hm hhm] at hl ⊢
    rw [fnLen] at hl
    have hpos : 0 < ht nds m := by
      rcases Nat.eq_zero_or_pos (ht nds m) with z | z
      · rw [z] at hl; simp at hl
      · exact z
    have h2 : 2 ≤ m := by
      rcases Nat.lt_or_ge m 2 with y | y
      · rw [ht_leaf y] at hpos; omega
      · exact y
    refine List.mem_map.mpr ⟨m - 2, List.mem_range.mpr (by omega), ?_⟩
    rw [show m - 2 + 2 = m by omega]
theorem due_perm {nds : List Node} {told : List Nat} {truths : List (List Nat)} (I : Inv nds told truths) : (nodesL nds).Perm (dueOf truths) :=
  (List.perm_ext_iff_of_nodup (nodesL_nodup I.wf) (foldD_nodup .nil)).mpr (due_nodes I)
theorem inv_step {nds : List Node} {told : List Nat} {truths : List (List Nat)} (I : Inv nds told truths) (way : Nat) {a b : Nat} (ha : a ∈ told) (hb : b ∈ told) :
    Inv (both way 3 nds a b).2 (told ++ [(both way 3 nds a b).1]) (truths ++ [List.zipWith (cmb way) (fn nds 3 a) (fn nds 3 b)]) ∧ (both way 3 nds a b).2.length ≤ nds.length + 7 := by
  have g := good_both way 3 nds a b I.wf (I.val a ha) (I.val b hb) (ht_le _ _) (ht_le _ _)
  have hM : max (ht nds a) (ht nds b) ≤ 3 := Nat.max_le.mpr ⟨ht_le _ _, ht_le _ _⟩
  have g := g.up (Nat.le_max_left _ _) (Nat.le_max_right _ _) (3 - max (ht nds a) (ht nds b))
  rw [show max (ht nds a) (ht nds b) + (3 - max (ht nds a) (ht nds b)) = 3 by omega] at g
  generalize both way 3 nds a b = r at g ⊢
  obtain ⟨m, n'⟩ := r
  obtain ⟨e, he, hc⟩ := g.ext
  dsimp only at he ⊢
  subst he
  refine ⟨⟨g.wf, ?_, ?_, ?_⟩, by rw [List.length_append]; omega⟩
  · intro n hn
    rcases List.mem_append.mp hn with hn | hn
    · have := I.val n hn; rw [List.length_append]; omega
    · rw [List.mem_singleton.mp hn]; exact g.lt
  · rw [List.map_append, I.tru, ← g.fn]
    congr 1
    exact List.map_congr_left fun n hn => (fn_ext I.wf e 3 n (I.val n hn)).symm
  · intro n h2 hn
    rcases Nat.lt_or_ge n (nds.length + 2) with z | z
    · obtain ⟨V, hV, hB⟩ := I.cov n h2 z
      rw [ht_ext e z, fn_ext I.wf e _ n z]
      exact ⟨V, List.mem_append_left _ hV, hB⟩
    · obtain ⟨_, hB⟩ := g.blk n z hn
      refine ⟨_, List.mem_append_right _ (List.mem_singleton_self _), ?_⟩
      rw [← g.fn]; exact hB
theorem least_all {nds : List Node} {told : List Nat} {truths : List (List Nat)} (I : Inv nds told truths) : truths.map (least 3) = told.map fun n => fn nds (ht nds n) n := by
  rw [I.tru, List.map_map]
  exact List.map_congr_left fun n hn => least_fn I.wf 3 n (I.val n hn) (ht_le _ _)
-- the things themselves
noncomputable def thingN (k : Nat) : List Node := (List.range k).map fun t => (t, 0, 1)
noncomputable def thingT (t : Nat) : List Nat := (List.range 8).map fun p => p / 2 ^ (2 - t) % 2
theorem inv_things : Inv (thingN 3) [2, 3, 4] [thingT 0, thingT 1, thingT 2] := by
  refine ⟨⟨fun i nd e => ?_, by decide⟩, by decide, by decide, fun n h2 hn => ?_⟩
  · have hi : i < 3 := (List.getElem?_eq_some_iff.mp e).1
    have : i = 0 ∨ i = 1 ∨ i = 2 := by omega
    rcases this with rfl | rfl | rfl <;> (cases e; decide)
  · have hn : n < 5 := hn
    have : n = 2 ∨ n = 3 ∨ n = 4 := by omega
    rcases this with rfl | rfl | rfl
    · exact ⟨thingT 0, by simp, 0, by decide, by decide⟩
    · exact ⟨thingT 1, by simp, 0, by decide, by decide⟩
    · exact ⟨thingT 2, by simp, 0, by decide, by decide⟩
end Mine
namespace Mine
open_top hd for PySem.Challenge.rw_ny0205_02
end Mine
namespace Mine
noncomputable def P0 : Params := { strHash := fun _ => 0, shareClass := fun _ => 0, mergeTok := id, idOf := fun _ => 0, idOfShared := fun _ _ => 0, followText := fun _ => false, idOfImm := fun _ => 0 }
noncomputable abbrev KK := Mine.hd.heap_39
noncomputable def fd (a : Addr) : FuncData := match (KK P0).lookup a with | some ⟨_, _, .func f, _⟩ => f | _ => default
noncomputable def fbody (a : Addr) : List Stmt := match (fd a).body with | .stmts b => b | _ => []
noncomputable def tup (a : Addr) : Array Value := match (KK P0).lookup a with | some ⟨_, _, .seq vs _, _⟩ => vs | _ => #[]
noncomputable def fldsAt (a : Addr) : Array Value := match (KK P0).lookup a with | some ⟨_, _, .fields vs, _⟩ => vs | _ => #[]
section
variable {C : Cx} {A : Around} {σ : Sto} {P : D → Sto → Prop}
theorem mgK (X : (KK C.w.params).In C.h₀) {x : Str} {v : Value} (e : nsIn (KK C.w.params) mainGlobals x = some (some v)) : C.mg x = some v := mg_of X C.g e
theorem mgN (X : (KK C.w.params).In C.h₀) {x : Str} (e : nsIn (KK C.w.params) mainGlobals x = some none) : C.mg x = none := mg_none_of X C.g e
theorem fn_init (X : (KK C.w.params).In C.h₀) : FnAt C 63 (fd 63) (fbody 63) := ⟨⟨_, X 63 _ rfl, rfl⟩, codeRec_of X (by rfl), rfl, rfl⟩
theorem fn_conv (X : (KK C.w.params).In C.h₀) : FnAt C 70 (fd 70) (fbody 70) := ⟨⟨_, X 70 _ rfl, rfl⟩, codeRec_of X (by rfl), rfl, rfl⟩
theorem fn_len (X : (KK C.w.params).In C.h₀) : FnAt C 77 (fd 77) (fbody 77) := ⟨⟨_, X 77 _ rfl, rfl⟩, codeRec_of X (by rfl), rfl, rfl⟩
theorem fn_get (X : (KK C.w.params).In C.h₀) : FnAt C 118 (fd 118) (fbody 118) := ⟨⟨_, X 118 _ rfl, rfl⟩, codeRec_of X (by rfl), rfl, rfl⟩
theorem fn_setdefault (X : (KK C.w.params).In C.h₀) : FnAt C 161 (fd 161) (fbody 161) := ⟨⟨_, X 161 _ rfl, rfl⟩, codeRec_of X (by rfl), rfl, rfl⟩
theorem fn_int2ap (X : (KK C.w.params).In C.h₀) : FnAt C 182 (fd 182) (fbody 182) := ⟨⟨_, X 182 _ rfl, rfl⟩, codeRec_of X (by rfl), rfl, rfl⟩
end
theorem ite_t {p q : Prop} (h : p) : if true = true then p else q := h
theorem ite_f {p q : Prop} (h : q) : if false = true then p else q := h
local macro_rules | `(tactic| walk_at "SUB") => `(tactic| first | exact Sub.refl | exact SubL.sub (by repeat (first | exact trivial | refine ⟨rfl, ?_⟩)))
local macro_rules | `(tactic| walk_at "CAN") => `(tactic| first | exact .inl rfl | exact .inr ⟨rfl, rfl, rfl⟩)
local macro_rules | `(tactic| walk_at "BOOT") => `(tactic| first | exact boot_len | exact boot_int | exact boot_abs | exact boot_divmod | exact boot_chr | exact boot_ord | exact boot_range | exact boot_sum | exact boot_type | exact boot_str | exact boot_list | exact boot_bytes | exact boot_min | exact boot_sorted)
local macro_rules | `(tactic| walk_at "EV") => `(tactic| first
  | refine ev_var rfl ?_
  | refine ev_int ?_
  | refine ev_str ?_
  | refine ev_bytes ?_
  | refine ev_none ?_
  | refine ev_bool ?_
  | (refine ev_call ?_; (first
      | (refine ev_builtin (mgN (by assumption) rfl) (by walk_at "BOOT") ?_; refine ⟨_, rfl, (by first | exact kp_builtin | exact kp_type), ?_⟩)
      | (refine ev_global (mgK (by assumption) rfl) ?_; refine ⟨_, rfl, kp_K (by assumption) rfl, ?_⟩)))
  | refine ev_global (mgK (by assumption) rfl) ?_
  | refine ev_builtin (mgN (by assumption) rfl) (by walk_at "BOOT") ?_
  | refine ev_binop ?_
  | walk_at "XE"
  | refine ev_compare ?_
  | refine ev_method ?_
  | refine ev_list ?_
  | refine ev_tuple ?_
  | refine ev_cut ?_
  | refine ev_sub ?_
  | refine ev_ifexp ?_
  | refine ev_listcomp ?_)
local macro_rules | `(tactic| walk_at "S") => `(tactic| first
  | ((with_reducible show Ev _ _ _ _ _ _ _ _); walk_at "EV")
  | ((with_reducible show EvL _ _ _ _ _ _ _ _); first | refine evl_nil ?_ | refine evl_cons ?_)
  | ((with_reducible show EvK _ _ _ _ _ _ _ _); first | refine evk_nil ?_ | refine evk_cons ?_)
  | ((with_reducible show EvPart _ _ _ _ _ _ _ _); first | refine evp_none ?_ | refine evp_some ?_)
  | ((with_reducible show Op2 _ _ _ _ _ _ _); first
      | refine op_add_int ?_
      | refine op_sub_int ?_
      | refine op_fdiv_int (by decide) (by decide) ?_
      | refine op_mod_int (by decide) ?_
      | refine op_mul_int (.of_right (intBits_le_64 (by decide) (by decide))) ?_
      | refine op_eq_int ?_
      | refine op_lt_int ?_
      | refine op_gt_int ?_
      | refine op_is_raw rfl ?_
      | refine op_isnot_raw rfl ?_
      | refine op_is_none ?_
      | refine op_is_str ?_
      | refine op_isnot_none ?_
      | refine op_eq_str ?_)
  | ((with_reducible show Ex1 _ _ _ _ _ _ _ _); first
      | refine ex1_assign ?_ (by walk_at "CAN")
      | refine ex1_return ?_
      | refine ex1_if ?_
      | refine ex1_expr ?_
      | refine ex1_for_inv ?_
      | refine ex1_assign_t ?_
      | refine ex1_assign_comp ?_ (by walk_at "CAN"))
  | ((with_reducible show Bv _ _ _ _ _ _ _ _); first
      | refine bv_compare ?_
      | refine bv_and2 ?_
      | refine bv_value ?_)
  | ((with_reducible show AsgL _ _ _ _ _ _ _ _ _); first | refine asgl_nil ?_ | refine asgl_cons ?_)
  | ((with_reducible show Asg _ _ _ _ _ _ _ _ _); refine asg_name (by walk_at "CAN") ?_)
  | ((with_reducible show Ca _ _ _ _ _ _ _); first
      | walk_at "XC"
      | refine ca_abs ?_
      | refine ca_type_str ?_
      | refine ca_int ?_
      | refine ca_ord ?_
      | refine ca_range1 ?_
      | refine ca_divmod (by decide) (by decide) ?_)
  | ((with_reducible show Tru _ _ _ _ _); first
      | refine tru_bool ?_
      | refine tru_none ?_)
  | ((with_reducible show ite _ _ _); first | refine ite_t ?_ | refine ite_f ?_)
  | ((with_reducible show Exists _); first
      | refine ⟨_, rfl, ?_⟩
      | refine ⟨_, gm_lower, kp_builtin, ?_⟩
      | refine ⟨_, gm_join, kp_builtin, ?_⟩
      | walk_at "XG")
  | ((with_reducible show Ifs _ _ _ _ _ _ _); first | refine ifs_one ?_ | refine ifs_nil ?_)
  | ((with_reducible show And _ _); first | refine op_item_tuple (by decide) (by decide) rfl ?_ | refine op_item_list (by decide) (by decide) rfl ?_ | refine ⟨rfl, ?_⟩ | refine ⟨(by walk_at "SUB"), ?_⟩ | refine ⟨Nat.le_of_ble_eq_true rfl, ?_⟩)
  | walk_at "XS"
  | refine ex_cons ?_
  | refine ex_nil ?_)
/-- the A-P word of a number, as octets -/
noncomputable def apL (n : Nat) : List UInt8 := if n = 0 then [] else apL (n / 16) ++ [UInt8.ofNat (65 + n % 16)]
termination_by n
decreasing_by omega
theorem apL_zero : apL 0 = [] := by rw [apL]; simp
theorem apL_pos {n : Nat} (h : n ≠ 0) : apL n = apL (n / 16) ++ [UInt8.ofNat (65 + n % 16)] := by rw [apL]; simp [h]
theorem apL_len : ∀ (k n : Nat), n < 16 ^ k → (apL n).length ≤ k
  | 0, n, h => by have : n = 0 := by simpa using h
                  subst this; rw [apL_zero]; simp
  | k + 1, n, h => by
    by_cases h0 : n = 0
    · subst h0; rw [apL_zero]; simp
    · rw [apL_pos h0]
      have := apL_len k (n / 16) (by rw [Nat.pow_succ] at h; omega)
      simp; omega
noncomputable def apWord : List UInt8 := [65, 66, 67, 68, 69, 70, 71, 72, 73, 74, 75, 76, 77, 78, 79, 80]
theorem apCut (m : Nat) (h : m < 16) : cutL apWord (some (m : Int)) (some ((m : Int) + 1)) = [UInt8.ofNat (65 + m)] := by
  have : ((m : Int) + 1) = ((m + 1 : Nat) : Int) := by omega
  rw [this, cutL_mid]
  have : ∀ m, m < 16 → ((apWord.take (m + 1)).drop m) = [UInt8.ofNat (65 + m)] := by decide
  exact this m h
section
variable {C : Cx} {A : Around} {σ : Sto} {P : D → Sto → Prop}
theorem int2ap (X : (KK C.w.params).In C.h₀) (rm : Rm 4 A) {n : Int} (hn : n.natAbs < 16 ^ 1000) (h : P (.bytes (apL n.natAbs).toArray) σ) : Ca C A (.ref 182) [.int n] [] σ P := by
  refine ca_fun (n := 3) rm (fn_int2ap X) (bnd1 (x := "num") (fun _ => rfl) ⟨rfl, fun L => ?_⟩)
  have rm' := rm.deeper (fenv (fd 182) 182 L)
  repeat walk_at "S"
  refine ex1_while (fun k ρ' σ' => σ' = σ ∧ ∃ m : Nat, ∃ v : List UInt8, ρ' = ([("num", .int m), ("val", .bytes v.toArray), ("AP", .bytes apWord.toArray)] : Rho) ∧ apL n.natAbs = apL m ++ v ∧ k = m) n.natAbs ⟨rfl, n.natAbs, [], ?_, ?_, rfl⟩ ?_
  · have : (if n < 0 then -n else n) = (n.natAbs : Int) := by split <;> omega
    rw [this]; rfl
  · simp
  rintro m ρ₁ _ ⟨rfl, _, v, rfl, hv, rfl⟩
  repeat walk_at "S"
  refine tru_int ?_
  split
  · rename_i hm
    have hm : m ≠ 0 := by simpa using hm
    repeat walk_at "S"
    refine asg_tuple rm'.handled rfl ?_
    repeat walk_at "S"
    have e1 : (m : Int) / 16 = ((m / 16 : Nat) : Int) := by omega
    have e2 : (m : Int) % 16 = ((m % 16 : Nat) : Int) := by omega
    have hlen : v.length ≤ 1000 := by
      have := apL_len _ _ hn
      rw [hv] at this; simp at this; omega
    refine cut_bytes (by decide) ?_
    rw [show apWord.toArray.toList = apWord from rfl, e2, apCut _ (Nat.mod_lt _ (by decide))]
    repeat walk_at "S"
    refine op_add_bytes (by simp; omega) ?_
    refine ex_nil ⟨m / 16, by omega, [("num", .int ((m / 16 : Nat) : Int)), ("val", .bytes ([UInt8.ofNat (65 + m % 16)] ++ v).toArray), ("AP", .bytes apWord.toArray)], SubL.sub ⟨?_, ?_, rfl, trivial⟩, rfl, _, _, rfl, ?_, rfl⟩
    · rw [e1]; rfl
    · simp; rfl
    · rw [hv, apL_pos hm]; simp
  · rename_i hm
    repeat walk_at "S"
    have hm : m = 0 := by simpa using hm
    subst hm
    rw [apL_zero] at hv
    simpa [hv] using h
end

-- the regular expressions
theorem getD_mem {x : Array Nat} {i : Nat} (h : i < x.size) : x.getD i 0 ∈ x.toList := by
  rw [Array.getD_eq_getD_getElem?, Array.getElem?_eq_getElem h]; simp
noncomputable def codeOf (a : Array Value) : Array Nat := (a.toList.map fun v => (Builtin.Re.reRawOf v).toNat).toArray
theorem codeOf_eq (a : Array Value) : (a.map Builtin.Re.reRawOf).map (·.toNat) = codeOf a := by
  cases a; simp [codeOf]
theorem misses_name (x : Str) (h : clean x) : Misses (((tup 42).map Builtin.Re.reRawOf).map (·.toNat)) x.cps := by
  rw [codeOf_eq]
  refine ⟨fun i hi seen => ?_, by rfl⟩
  obtain ⟨h1, h2⟩ := h _ (getD_mem hi)
  generalize x.cps.getD i 0 = c at h1 h2
  have e : ∀ c seen, Sre.inSet (codeOf (tup 42)) c (codeOf (tup 42)).size 5 true seen =
      if (decide (0 ≤ c) && decide (c ≤ 31)) = true then .ok (true, Sre.Seen.add seen 22) else if (c == 127) = true then .ok (true, Sre.Seen.add (Sre.Seen.add seen 22) 16) else .ok (false, Sre.Seen.add (Sre.Seen.add (Sre.Seen.add seen 22) 16) 0) := fun c seen => rfl
  rw [e, if_neg (by simp; omega), if_neg (by simpa using h2)]
  exact ⟨_, rfl⟩
theorem misses_value (x : Str) (h : clean x) : Misses (((tup 47).map Builtin.Re.reRawOf).map (·.toNat)) x.cps := by
  rw [codeOf_eq]
  refine ⟨fun i hi seen => ?_, by rfl⟩
  obtain ⟨h1, h2⟩ := h _ (getD_mem hi)
  generalize x.cps.getD i 0 = c at h1 h2
  have e : ∀ c seen, Sre.inSet (codeOf (tup 47)) c (codeOf (tup 47)).size 5 true seen =
      if (decide (c < 256) && ((codeOf (tup 47)).getD (5 + (1 + c / 32)) 0).testBit (c % 32)) = true then .ok (true, Sre.Seen.add seen 9) else .ok (false, Sre.Seen.add (Sre.Seen.add seen 9) 0) := fun c seen => rfl
  have f : ∀ c, c < 256 → 32 ≤ c → c ≠ 127 → ((codeOf (tup 47)).getD (5 + (1 + c / 32)) 0).testBit (c % 32) = false := by decide +kernel
  rw [e, if_neg]
  · exact ⟨_, rfl⟩
  · by_cases hc : c < 256
    · rw [f c hc h1 h2]; simp
    · simp [hc]
section
variable {C : Cx} {A : Around} {σ : Sto} {P : D → Sto → Prop}
theorem conv (X : (KK C.w.params).In C.h₀) (rm : Rm 4 A) {self : D} {x : Str} {b : Bool} (hx : clean x) (hsz : x.length < 2 ^ 62) (h : P (.str x) σ) : Ca C A (.ref 70) [self, .str x] [("name", .bool b)] σ P := by
  refine ca_fun (n := 3) rm (fn_conv X) (bnd2k (x := "self") (y := "value") (z := "name") (fun _ _ _ => rfl) ⟨rfl, fun L => ?_⟩)
  have rm' := rm.deeper (fenv (fd 70) 70 L)
  repeat walk_at "S"
  cases b
  · repeat walk_at "S"
    refine ⟨_, gm_search (X 48 _ rfl) rfl rfl, kp_builtin, ?_⟩
    repeat walk_at "S"
    refine ca_search (b := 47) (X 48 _ rfl) rfl rfl (X 47 _ rfl) (misses_value x hx) hsz ?_
    repeat walk_at "S"
    exact h
  · repeat walk_at "S"
    refine ⟨_, gm_search (X 43 _ rfl) rfl rfl, kp_builtin, ?_⟩
    repeat walk_at "S"
    refine ca_search (b := 42) (X 43 _ rfl) rfl rfl (X 42 _ rfl) (misses_name x hx) hsz ?_
    repeat walk_at "S"
    exact h
end
/-- a name that the table takes -/
structure Nm (x : Str) : Prop where
  clean : clean x
  low : Mine.clean (Txt.lower x)
  len : x.length ≤ 5592405
  lowLen : (Txt.lower x).length < 2 ^ 62
theorem Nm.lt {x : Str} (h : Nm x) : x.length < 2 ^ 62 := Nat.lt_of_le_of_lt h.len (by decide)
noncomputable def lowEq (a b : Str) : Bool := (Txt.lower a).cps.toList == (Txt.lower b).cps.toList
noncomputable def pairD (r : Str × Str) : D := .tuple [.str r.1, .str r.2]
noncomputable def hdrs (rs : List (Str × Str)) : List D := rs.map pairD
/-- the rows of a table -/
structure Rows (rs : List (Str × Str)) : Prop where
  len : rs.length ≤ 1000
  nm : ∀ r ∈ rs, Nm r.1
theorem hdrs_len {rs : List (Str × Str)} (h : Rows rs) : (hdrs rs).length ≤ sizeLine := by
  have := h.len
  have : sizeLine = 16777216 := rfl
  simp [hdrs]; omega
abbrev Hc : Addr := 171
noncomputable def found (rs : List (Str × Str)) (x : Str) : D := ((rs.find? fun r => lowEq r.1 x).map fun r => D.str r.2).getD .none
theorem found_cons (r : Str × Str) (rs : List (Str × Str)) (x : Str) : found (r :: rs) x = if lowEq r.1 x then .str r.2 else found rs x := by
  unfold found; rw [List.find?_cons]; split <;> simp_all
section
variable {C : Cx} {A : Around} {σ : Sto} {P : D → Sto → Prop}
theorem clsOk (C : Cx) : ClsOk (KK C.w.params) Hc := ⟨rfl, rfl, fun _ _ _ _ => rfl⟩
end
local macro_rules | `(tactic| walk_at "XG") => `(tactic| first
  | (refine ⟨_, gm_own (K := KK _) (by assumption) (by assumption) (clsOk _) rfl rfl rfl, kp_K (K := KK _) (by assumption) rfl, ?_⟩))
local macro_rules | `(tactic| walk_at "XE") => `(tactic| refine ev_headers (K := KK _) (by assumption) (by assumption) (clsOk _) ?_)
local macro_rules | `(tactic| walk_at "NM") => `(tactic| first
  | exact Nm.clean (by assumption) | exact Nm.low (by assumption) | exact Nm.lt (by assumption) | exact Nm.lowLen (by assumption) | exact Nm.len (by assumption) | assumption)
local macro_rules | `(tactic| walk_at "XC") => `(tactic| first
  | refine ca_lower (by walk_at "NM") ?_
  | refine conv (by assumption) (Rm.le (by assumption) (by decide)) (by walk_at "NM") (by walk_at "NM") ?_)

section
variable {C : Cx} {A : Around} {σ : Sto} {P : D → Sto → Prop}
theorem get (X : (KK C.w.params).In C.h₀) (rm : Rm 6 A) {x l : Addr} {vs : List Value} {rs : List (Str × Str)} {nm : Str} (T : Tb C Hc x l) (hin : (l, vs, hdrs rs) ∈ σ) (hr : Rows rs) (hn : Nm nm) (h : P (found rs nm) σ) :
    Ca C A (.ref 118) [.raw (.ref x), .str nm] [] σ P := by
  refine ca_fun (n := 5) rm (fn_get X) (bnd2d (x := "self") (y := "name") (z := "default") X (fun _ _ _ => rfl) ⟨rfl, fun L => ?_⟩)
  have rm' := rm.deeper (fenv (fd 118) 118 L)
  repeat walk_at "S"
  refine ⟨_, _, itr_store rm'.handled hin, hin, fun ds ρ σ' => σ = σ' ∧ ∃ rs', ds = hdrs rs' ∧ (∀ r ∈ rs', Nm r.1) ∧ found rs nm = found rs' nm ∧ ρ = ([("self", .raw (.ref x)), ("name", .str (Txt.lower nm)), ("default", .none)] : Rho), _, .refl, ⟨rfl, rs, rfl, hr.nm, rfl, rfl⟩, ?_, ?_⟩
  · rintro ρ _ ⟨rfl, rs', e, _, hf, rfl⟩
    have : rs' = [] := by cases rs' <;> simp_all [hdrs]
    subst this
    repeat walk_at "S"
    rw [hf] at h
    exact h
  · rintro d ds ρ _ ⟨rfl, rs', e, hm, hf, rfl⟩
    cases rs' with
    | nil => cases e
    | cons r rs' =>
      obtain ⟨k, v⟩ := r
      cases e
      have hk := hm _ (.head _)
      refine asg_tuple rm'.handled rfl ?_
      repeat walk_at "S"
      rw [found_cons] at hf
      split
      · rename_i hq
        repeat walk_at "S"
        rw [hf, if_pos (show lowEq (k, v).1 nm = true from hq)] at h
        exact h
      · rename_i hq
        repeat walk_at "S"
        refine ⟨hin, _, ?_, rfl, rs', rfl, fun r hr => hm r (.tail _ hr), ?_, rfl⟩
        · walk_at "SUB"
        rw [hf, if_neg (show ¬ lowEq (k, v).1 nm = true from hq)]
end
theorem hdrs_app (rs : List (Str × Str)) (a b : Str) : hdrs (rs ++ [(a, b)]) = hdrs rs ++ [D.tuple [.str a, .str b]] := by rw [hdrs, List.map_append]; rfl
section
variable {C : Cx} {A : Around} {σ : Sto} {P : D → Sto → Prop}
theorem fn_keys (X : (KK C.w.params).In C.h₀) : FnAt C 123 (fd 123) (fbody 123) := ⟨⟨_, X 123 _ rfl, rfl⟩, codeRec_of X (by rfl), rfl, rfl⟩
theorem fn_law_word (X : (KK C.w.params).In C.h₀) : FnAt C 187 (fd 187) (fbody 187) := ⟨⟨_, X 187 _ rfl, rfl⟩, codeRec_of X (by rfl), rfl, rfl⟩
theorem fn_law_read (X : (KK C.w.params).In C.h₀) : FnAt C 194 (fd 194) (fbody 194) := ⟨⟨_, X 194 _ rfl, rfl⟩, codeRec_of X (by rfl), rfl, rfl⟩
theorem fn_law_knot (X : (KK C.w.params).In C.h₀) : FnAt C 199 (fd 199) (fbody 199) := ⟨⟨_, X 199 _ rfl, rfl⟩, codeRec_of X (by rfl), rfl, rfl⟩
theorem fn_law_both (X : (KK C.w.params).In C.h₀) : FnAt C 204 (fd 204) (fbody 204) := ⟨⟨_, X 204 _ rfl, rfl⟩, codeRec_of X (by rfl), rfl, rfl⟩
theorem fn_law_places (X : (KK C.w.params).In C.h₀) : FnAt C 209 (fd 209) (fbody 209) := ⟨⟨_, X 209 _ rfl, rfl⟩, codeRec_of X (by rfl), rfl, rfl⟩
theorem fn_law_least (X : (KK C.w.params).In C.h₀) : FnAt C 216 (fd 216) (fbody 216) := ⟨⟨_, X 216 _ rfl, rfl⟩, codeRec_of X (by rfl), rfl, rfl⟩
theorem fn_law (X : (KK C.w.params).In C.h₀) : FnAt C 221 (fd 221) (fbody 221) := ⟨⟨_, X 221 _ rfl, rfl⟩, codeRec_of X (by rfl), rfl, rfl⟩
theorem len (X : (KK C.w.params).In C.h₀) (rm : Rm 2 A) {x l : Addr} {vs : List Value} {rs : List (Str × Str)} (T : Tb C Hc x l) (hin : (l, vs, hdrs rs) ∈ σ) (hr : Rows rs) (h : P (.int rs.length) σ) :
    Ca C A (.ref 77) [.raw (.ref x)] [] σ P := by
  refine ca_fun (n := 1) rm (fn_len X) (bnd1 (x := "self") (fun _ => rfl) ⟨rfl, fun L => ?_⟩)
  have rm' := rm.deeper (fenv (fd 77) 77 L)
  repeat walk_at "S"
  refine ca_len_store hin (hdrs_len hr) ?_
  have e : (hdrs rs).length = rs.length := by simp [hdrs]
  rw [e]
  exact h
theorem found_cases (rs : List (Str × Str)) (x : Str) : found rs x = .none ∨ ∃ v, found rs x = .str v := by
  unfold found; cases rs.find? fun r => lowEq r.1 x <;> simp
theorem setdefault (X : (KK C.w.params).In C.h₀) (rm : Rm 8 A) {x l : Addr} {vs : List Value} {rs : List (Str × Str)} {nm v : Str} (T : Tb C Hc x l) (hr : Rows rs) (hn : Nm nm) (hv : clean v) (hvl : v.length < 2 ^ 62)
    (h1 : found rs nm = .none → ∀ us, P (.str v) [(l, us, hdrs (rs ++ [(nm, v)]))]) (h2 : ∀ w, found rs nm = .str w → P (.str w) [(l, vs, hdrs rs)]) :
    Ca C A (.ref 161) [.raw (.ref x), .str nm, .str v] [] [(l, vs, hdrs rs)] P := by
  refine ca_fun (n := 7) rm (fn_setdefault X) (bnd3 (x := "self") (y := "name") (z := "value") (fun _ _ _ => rfl) ⟨rfl, fun L => ?_⟩)
  have rm' := rm.deeper (fenv (fd 161) 161 L)
  have hin : (l, vs, hdrs rs) ∈ [(l, vs, hdrs rs)] := List.mem_singleton_self _
  repeat walk_at "S"
  refine get X (rm'.le (by decide)) T hin hr hn ?_
  rcases found_cases rs nm with q | ⟨w, q⟩
  · rw [q]
    repeat walk_at "S"
    refine ⟨_, gm_append hin, kp_builtin, ?_⟩
    repeat walk_at "S"
    refine ca_append hin (hdrs_len hr) fun w => ?_
    rw [updS_one, ← hdrs_app]
    repeat walk_at "S"
    exact h1 q _
  · rw [q]
    repeat walk_at "S"
    exact h2 w q
noncomputable def gKey (d : D) : Option D := match d with | .tuple [.str k, .str _] => some (.str k) | _ => none
theorem gKey_eq (rs : List (Str × Str)) : (hdrs rs).filterMap gKey = rs.map fun r => D.str r.1 := by
  induction rs with
  | nil => rfl
  | cons r rs ih =>
    show (pairD r :: hdrs rs).filterMap gKey = _
    rw [List.filterMap_cons, show gKey (pairD r) = some (.str r.1) from rfl, ih]; rfl
theorem keys (X : (KK C.w.params).In C.h₀) (rm : Rm 2 A) {x l : Addr} {vs : List Value} {rs : List (Str × Str)} (T : Tb C Hc x l) (hin : (l, vs, hdrs rs) ∈ σ) (hr : Rows rs) (h : P (.list (rs.map fun r => .str r.1)) σ) :
    Ca C A (.ref 123) [.raw (.ref x)] [] σ P := by
  refine ca_fun (n := 1) rm (fn_keys X) (bnd1 (x := "self") (fun _ => rfl) ⟨rfl, fun L => ?_⟩)
  have rm' := rm.deeper (fenv (fd 123) 123 L)
  repeat walk_at "S"
  refine ⟨_, _, itr_store rm'.handled hin, hin, hdrs_len hr, fun Dd Lc => comp_go gKey _ .refl hin ?_ ?_⟩
  · intro d hd
    obtain ⟨⟨k, v⟩, hm, rfl⟩ := List.mem_map.mp hd
    refine asg_tuple rm'.handled rfl ?_
    repeat walk_at "S"
    rfl
  rw [gKey_eq]
  exact h
end
-- plain facts on A-P words
noncomputable def mkS (l : List Nat) : Str := ⟨l.toArray⟩
theorem mkS_app (a b : List Nat) : mkS a ++ mkS b = mkS (a ++ b) := by
  show Str.mk (a.toArray ++ b.toArray) = _
  simp [mkS]
theorem mkS_len (a : List Nat) : (mkS a).length = a.length := by simp [mkS, Str.length]
theorem mkS_of (x : Str) : mkS x.cps.toList = x := by cases x; simp [mkS]
/-- the signs of the A-P word of a number -/
noncomputable def apC (n : Nat) : List Nat := (apL n).map UInt8.toNat
theorem apC_zero : apC 0 = [] := by rw [apC, apL_zero]; rfl
theorem apC_pos {n : Nat} (h : n ≠ 0) : apC n = apC (n / 16) ++ [65 + n % 16] := by
  rw [apC, apL_pos h, List.map_append]
  have : (UInt8.ofNat (65 + n % 16)).toNat = 65 + n % 16 := by
    show (65 + n % 16) % 256 = _
    omega
  rw [List.map_cons, List.map_nil, this]; rfl
theorem apC_len (k n : Nat) (h : n < 16 ^ k) : (apC n).length ≤ k := by rw [apC, List.length_map]; exact apL_len k n h
theorem apC_range (n : Nat) : ∀ c ∈ apC n, 65 ≤ c ∧ c ≤ 80 := by
  induction n using Nat.strongRecOn with
  | ind n ih =>
    by_cases h : n = 0
    · subst h; rw [apC_zero]; simp
    · rw [apC_pos h]
      intro c hc
      rcases List.mem_append.mp hc with hc | hc
      · exact ih (n / 16) (by omega) c hc
      · simp at hc; omega
/-- the number that a word tells -/
noncomputable def unAp (l : List Nat) : Nat := l.foldl (fun a c => a * 16 + (c - 65)) 0
theorem unAp_apC (n : Nat) : unAp (apC n) = n := by
  induction n using Nat.strongRecOn with
  | ind n ih =>
    by_cases h : n = 0
    · subst h; rw [apC_zero]; rfl
    · rw [apC_pos h, unAp, List.foldl_append]
      have := ih (n / 16) (by omega)
      rw [unAp] at this
      simp only [this, List.foldl_cons, List.foldl_nil]
      omega
theorem apC_inj {m n : Nat} (h : apC m = apC n) : m = n := by rw [← unAp_apC m, h, unAp_apC]
/-- numbers run together -/
noncomputable def joinN (row : List Nat) : Nat := row.foldl (fun j p => j * 16 ^ (apC p).length + p) 0
/-- small letters -/
noncomputable def lowC (l : List Nat) : List Nat := l.map lo1
/-- the signs of the name of a row, from a place on -/
noncomputable def nameC : Nat → List Nat → List Nat
  | _, [] => []
  | i, p :: row => (if i % 2 = 0 then apC p else lowC (apC p)) ++ nameC (i + 1) row
theorem lowC_apC_inj {m n : Nat} (h : lowC (apC m) = lowC (apC n)) : m = n := by
  refine apC_inj ?_
  have key : ∀ a b : List Nat, (∀ c ∈ a, 65 ≤ c ∧ c ≤ 80) → (∀ c ∈ b, 65 ≤ c ∧ c ≤ 80) → lowC a = lowC b → a = b := by
    intro a
    induction a with
    | nil => intro b _ _ h; cases b <;> simp_all [lowC]
    | cons x a ih =>
      intro b ha hb h
      cases b with
      | nil => simp [lowC] at h
      | cons y b =>
        simp only [lowC, List.map_cons, List.cons.injEq] at h
        have hx := ha x (.head _)
        have hy := hb y (.head _)
        have h1 := h.1
        simp only [lo1, show 65 ≤ x ∧ x ≤ 90 from ⟨hx.1, by omega⟩, show 65 ≤ y ∧ y ≤ 90 from ⟨hy.1, by omega⟩, and_self, if_true] at h1
        rw [ih b (fun c hc => ha c (.tail _ hc)) (fun c hc => hb c (.tail _ hc)) h.2]
        congr 1
        omega
  exact key _ _ (apC_range m) (apC_range n) h
theorem lowC_app (a b : List Nat) : lowC (a ++ b) = lowC a ++ lowC b := by simp [lowC]
theorem lowC_range (l : List Nat) (h : ∀ c ∈ l, 65 ≤ c ∧ c ≤ 80) : ∀ c ∈ lowC l, 97 ≤ c ∧ c ≤ 112 := by
  intro c hc
  obtain ⟨d, hd, rfl⟩ := List.mem_map.mp hc
  have := h d hd
  simp only [lo1]
  split <;> omega
theorem lower_mkS (l : List Nat) (h : ∀ c ∈ l, c < 128) : Txt.lower (mkS l) = mkS (lowC l) := by
  rw [lower_ascii (x := mkS l) h]
  simp [mkS, lowC]
theorem clean_mkS {l : List Nat} (h : ∀ c ∈ l, 65 ≤ c ∧ c ≤ 112) : clean (mkS l) := fun c hc => by
  have := h c hc; omega
theorem join_signs (l : List Nat) : Txt.join (Str.ofString "") (l.map fun c => Str.mk #[c]) = mkS l := by
  have key : ∀ l : List Nat, Str.join (Str.ofString "") (l.map fun c => Str.mk #[c]) = mkS l := by
    intro l
    induction l with
    | nil => rfl
    | cons c l ih =>
      cases l with
      | nil => rfl
      | cons d l =>
        show Str.mk #[c] ++ Str.ofString "" ++ Str.join (Str.ofString "") ((d :: l).map fun c => Str.mk #[c]) = _
        rw [ih]
        show mkS [c] ++ mkS [] ++ mkS (d :: l) = _
        rw [mkS_app, mkS_app]; rfl
  exact (eq_of_beq (join_closes rfl)).trans (key l)
theorem joinOk_signs (l : List Nat) (h : l.length ≤ 16777216) : JoinOk (Str.ofString "") (l.map fun c => Str.mk #[c]) = true := by
  simp only [JoinOk, Bool.not_eq_true']
  have key : ∀ (l : List Nat) (a : Nat), (l.map fun c => Str.mk #[c]).foldl (fun (n : Nat) (x : Str) => n + x.length + (Str.ofString "").length) a = a + l.length := by
    intro l
    induction l with
    | nil => intro a; rfl
    | cons c l ih =>
      intro a
      rw [List.map_cons, List.foldl_cons, ih]
      show a + 1 + 0 + l.length = _
      simp; omega
  have hs : sizeLine = 16777216 := rfl
  rw [List.foldl_toArray, key]
  exact decide_eq_false (p := 0 + l.length > sizeLine) (by omega)
section
variable {C : Cx} {A : Around} {σ : Sto} {P : D → Sto → Prop}
theorem law_word (X : (KK C.w.params).In C.h₀) (rm : Rm 6 A) {n : Nat} (hn : n < 16 ^ 1000) (h : P (.str (mkS (apC n))) σ) : Ca C A (.ref 187) [.int n] [] σ P := by
  refine ca_fun (n := 5) rm (fn_law_word X) (bnd1 (x := "number") (fun _ => rfl) ⟨rfl, fun L => ?_⟩)
  have rm' := rm.deeper (fenv (fd 187) 187 L)
  repeat walk_at "S"
  refine int2ap X (rm'.le (by decide)) (by rw [Int.natAbs_natCast]; exact hn) ?_
  have hl := apL_len _ _ hn
  have hs : sizeLine = 16777216 := rfl
  refine ⟨_, _, itr_bytes rm'.handled, trivial, by simp [octets]; omega, fun Dd Lc => comp_go (fun d => match d with | .int i => some (.str ⟨#[i.toNat]⟩) | _ => none) _ .refl trivial ?_ ?_⟩
  · intro d hd
    obtain ⟨c, hm, rfl⟩ := List.mem_map.mp hd
    repeat walk_at "S"
    have := c.toNat_lt
    refine ca_chr (by omega) (by omega) ?_
    repeat walk_at "S"
    rfl
  · have e : (octets (apL n).toArray).filterMap (fun d => match d with | .int i => some (D.str ⟨#[i.toNat]⟩) | _ => none) = ((apC n).map fun c => Str.mk #[c]).map D.str := by
      simp only [octets, apC, List.filterMap_map, List.map_map]
      rw [← List.filterMap_eq_map]
      rfl
    show Ca _ _ _ [_, D.list ((octets (apL n).toArray).filterMap _)] _ _ _
    rw [e]
    refine ca_join (joinOk_signs _ (by rw [apC, List.length_map]; omega)) ?_
    rw [join_signs]
    exact h
end
theorem joinOk_of {sep : Str} {texts : List Str} (h : (texts.map Str.length).sum + texts.length * sep.length ≤ 16777216) : JoinOk sep texts = true := by
  simp only [JoinOk, Bool.not_eq_true']
  have key : ∀ (l : List Str) (a : Nat), l.foldl (fun (n : Nat) (x : Str) => n + x.length + sep.length) a = a + (l.map Str.length).sum + l.length * sep.length := by
    intro l
    induction l with
    | nil => intro a; simp
    | cons c l ih =>
      intro a
      rw [List.foldl_cons, ih, List.map_cons, List.sum_cons, List.length_cons, Nat.add_mul]
      omega
  have hs : sizeLine = 16777216 := rfl
  rw [List.foldl_toArray, key]
  exact decide_eq_false (p := 0 + _ + _ > sizeLine) (by omega)
theorem join_eq (sep : Str) (xs : List Str) : Txt.join sep xs = Str.join sep xs := eq_of_beq (join_closes rfl)
-- a text cut at one sign
noncomputable def spl (c : Nat) : List Nat → List (List Nat)
  | [] => [[]]
  | d :: l => if d = c then [] :: spl c l else (match spl c l with | [] => [[d]] | p :: r => (d :: p) :: r)
theorem spl_free {c : Nat} : ∀ {l : List Nat}, c ∉ l → spl c l = [l]
  | [], _ => rfl
  | d :: l, h => by
    rw [spl, if_neg (fun z => h (by rw [z]; exact List.mem_cons_self ..)), spl_free fun z => h (List.mem_cons_of_mem _ z)]
theorem spl_cut {c : Nat} {l : List Nat} : ∀ {p : List Nat}, c ∉ p → spl c (p ++ c :: l) = p :: spl c l
  | [], _ => by rw [List.nil_append, spl, if_pos rfl]
  | d :: p, h => by
    rw [List.cons_append, spl, if_neg (fun z => h (by rw [z]; exact List.mem_cons_self ..)), spl_cut fun z => h (List.mem_cons_of_mem _ z)]
theorem mkS_sub (x : Str) (a b : Nat) : Builtin.Str.strSub x a b = mkS ((x.cps.toList.drop a).take (b - a)) := by
  rw [← StrLaws.strSub_toList, mkS_of]
theorem chain_spl (x : Str) (c : Nat) : ∀ (cuts : List Nat) (a f : Nat), StrLaws.ChainG x ⟨#[c]⟩ x.length a cuts f → (∀ k, f ≤ k → ¬ StrLaws.At x ⟨#[c]⟩ x.length k) →
    StrLaws.partsFrom x 1 a cuts = (spl c (x.cps.toList.drop a)).map mkS
  | [], a, f, h, hn => by
    have e : f = a := h
    subst e
    rw [spl_free (drop_free x c f hn)]
    show [Builtin.Str.strSub x f x.length] = _
    rw [mkS_sub, List.take_of_length_le (by simp [Str.length])]
    rfl
  | d :: r, a, f, h, hn => by
    obtain ⟨had, hAt, hgap, hrest⟩ := h
    have ih := chain_spl x c r _ f hrest hn
    have hd : x.cps.toList[d]? = some c := (StrLaws.subAt_one x c d).mp hAt
    have e1 : x.cps.toList.drop a = (x.cps.toList.drop a).take (d - a) ++ (x.cps.toList.drop a).drop (d - a) := (List.take_append_drop _ _).symm
    have e2 : (x.cps.toList.drop a).drop (d - a) = x.cps.toList.drop d := by rw [List.drop_drop]; congr 1; omega
    have e3 : x.cps.toList.drop d = c :: x.cps.toList.drop (d + 1) := by
      have hlt : d < x.cps.toList.length := (List.getElem?_eq_some_iff.mp hd).1
      rw [List.drop_eq_getElem_cons hlt]
      congr 1
      exact (List.getElem?_eq_some_iff.mp hd).2
    have hfree : c ∉ (x.cps.toList.drop a).take (d - a) := by
      have := StrLaws.part_free x c a d (by have := hAt.1; omega) hgap
      rwa [StrLaws.strSub_toList] at this
    have hw : (⟨#[c]⟩ : Str).length = 1 := rfl
    rw [hw] at ih
    show Builtin.Str.strSub x a d :: StrLaws.partsFrom x 1 (d + 1) r = _
    rw [ih, mkS_sub]
    conv => rhs; rw [e1, e2, e3, spl_cut hfree, List.map_cons]
theorem parts_spl (l : List Nat) (c : Nat) : Builtin.Str.partsBetween (mkS l) (Builtin.Str.occurrences (mkS l) ⟨#[c]⟩ 0 (mkS l).length ((mkS l).length + 1)) 1 = (spl c l).map mkS := by
  obtain ⟨f, h, hn⟩ := StrLaws.occ_tight (mkS l) ⟨#[c]⟩ (Nat.le_refl 1)
  rw [StrLaws.partsBetween_eq, chain_spl (mkS l) c _ 0 f h hn]
  rfl
-- names of nodes
noncomputable def casC (b : Bool) (l : List Nat) : List Nat := if b then lowC l else l
noncomputable def nmC (nd : Node) : List Nat := apC nd.1 ++ 45 :: (apC nd.2.1 ++ 45 :: apC nd.2.2)
theorem lo1_idem (c : Nat) : lo1 (lo1 c) = lo1 c := by
  by_cases h : 65 ≤ c ∧ c ≤ 90
  · have e : lo1 c = c + 32 := by unfold lo1; exact if_pos (by omega)
    rw [e]; unfold lo1; exact if_neg (by omega)
  · have e : lo1 c = c := by unfold lo1; exact if_neg (by omega)
    rw [e, e]
theorem lowC_cas (b : Bool) (l : List Nat) : lowC (casC b l) = lowC l := by
  cases b
  · rfl
  · show lowC (lowC l) = lowC l
    simp only [lowC, List.map_map]
    exact List.map_congr_left fun c _ => lo1_idem c
theorem cas_cut (b : Bool) (x y : List Nat) : casC b (x ++ 45 :: y) = casC b x ++ 45 :: casC b y := by
  cases b
  · rfl
  · show lowC _ = lowC x ++ 45 :: lowC y
    rw [lowC_app]; rfl
theorem cas_range (b : Bool) (n : Nat) : ∀ c ∈ casC b (apC n), (65 ≤ c ∧ c ≤ 80) ∨ (97 ≤ c ∧ c ≤ 112) := by
  cases b
  · exact fun c hc => .inl (apC_range n c hc)
  · exact fun c hc => .inr (lowC_range _ (apC_range n) c hc)
theorem cas_45 (b : Bool) (n : Nat) : 45 ∉ casC b (apC n) := fun h => by have := cas_range b n 45 h; omega
theorem spl_name (b : Bool) (nd : Node) : spl 45 (casC b (nmC nd)) = [casC b (apC nd.1), casC b (apC nd.2.1), casC b (apC nd.2.2)] := by
  rw [nmC, cas_cut, cas_cut, spl_cut (cas_45 b _), spl_cut (cas_45 b _), spl_free (cas_45 b _)]
theorem name_chars (b : Bool) (nd : Node) : ∀ c ∈ casC b (nmC nd), 45 ≤ c ∧ c ≤ 112 := by
  rw [nmC, cas_cut, cas_cut]
  intro c hc
  simp only [List.mem_append, List.mem_cons] at hc
  rcases hc with hc | rfl | hc | rfl | hc
  · have := cas_range b _ c hc; omega
  · decide
  · have := cas_range b _ c hc; omega
  · decide
  · have := cas_range b _ c hc; omega
theorem cas_len (b : Bool) (l : List Nat) : (casC b l).length = l.length := by cases b <;> simp [casC, lowC]
structure Sm (nd : Node) : Prop where
  t : nd.1 < 3
  lo : nd.2.1 < 70
  hi : nd.2.2 < 70
theorem name_len (b : Bool) {nd : Node} (h : Sm nd) : (casC b (nmC nd)).length ≤ 20 ∧ 2 ≤ (casC b (nmC nd)).length := by
  have h1 := apC_len 5 nd.1 (by have := h.t; omega)
  have h2 := apC_len 5 nd.2.1 (by have := h.lo; omega)
  have h3 := apC_len 5 nd.2.2 (by have := h.hi; omega)
  rw [cas_len, nmC]
  simp only [List.length_append, List.length_cons]; omega
theorem lower_name (b : Bool) (nd : Node) : Txt.lower (mkS (casC b (nmC nd))) = mkS (lowC (nmC nd)) := by
  rw [lower_mkS _ fun c hc => by have := name_chars b nd c hc; omega, lowC_cas]
theorem nm_name (b : Bool) {nd : Node} (h : Sm nd) : Nm (mkS (casC b (nmC nd))) := by
  have hl := name_len b h
  have hl2 := name_len true h
  have hcl : ∀ b, clean (mkS (casC b (nmC nd))) := fun b c hc => by have := name_chars b nd c hc; omega
  refine ⟨hcl b, ?_, by rw [mkS_len]; omega, ?_⟩
  · rw [lower_name]; exact hcl true
  · rw [lower_name, mkS_len]; exact Nat.lt_of_le_of_lt hl2.1 (by decide)
theorem lowEq_name (b b' : Bool) (nd q : Node) : lowEq (mkS (casC b (nmC nd))) (mkS (casC b' (nmC q))) = decide (nd = q) := by
  rw [lowEq, lower_name, lower_name]
  show (lowC (nmC nd) == lowC (nmC q)) = _
  by_cases h : nd = q
  · subst h; simp
  · rw [decide_eq_false h, beq_eq_false_iff_ne]
    intro e
    have s1 := spl_name true nd
    have s2 := spl_name true q
    have : spl 45 (casC true (nmC nd)) = spl 45 (casC true (nmC q)) := congrArg (spl 45) e
    rw [s1, s2] at this
    simp only [List.cons.injEq, and_true] at this
    obtain ⟨e1, e2, e3⟩ := this
    exact h (by rw [show nd = (nd.1, nd.2.1, nd.2.2) from rfl, lowC_apC_inj e1, lowC_apC_inj e2, lowC_apC_inj e3])
/-- the number that a word tells -/
noncomputable def rdC (l : List Nat) : Nat := l.foldl (fun a c => a * 16 + (c % 32 - 1)) 0
theorem rd_cas (b : Bool) (n : Nat) : rdC (casC b (apC n)) = n := by
  induction n using Nat.strongRecOn with
  | ind n ih =>
    by_cases h : n = 0
    · subst h; rw [apC_zero]; cases b <;> rfl
    · have ih := ih (n / 16) (by omega)
      have e : casC b (apC n) = casC b (apC (n / 16)) ++ casC b [65 + n % 16] := by
        rw [apC_pos h]; cases b
        · rfl
        · exact lowC_app _ _
      rw [e, rdC, List.foldl_append]
      rw [rdC] at ih
      rw [ih]
      cases b
      · show n / 16 * 16 + ((65 + n % 16) % 32 - 1) = n
        omega
      · show n / 16 * 16 + (lo1 (65 + n % 16) % 32 - 1) = n
        have : lo1 (65 + n % 16) = 97 + n % 16 := by unfold lo1; rw [if_pos (by omega)]; omega
        rw [this]; omega
structure Tbl (nds : List Node) (rs : List (Str × Str)) : Prop where
  len : rs.length = nds.length
  at_ : ∀ i nd, nds[i]? = some nd → ∃ b, rs[i]? = some (mkS (casC b (nmC nd)), mkS (apC (i + 2)))
  few : nds.length ≤ 60
  sm : ∀ nd ∈ nds, Sm nd
theorem Tbl.rows {nds : List Node} {rs : List (Str × Str)} (T : Tbl nds rs) : Rows rs := by
  refine ⟨by have := T.len; have := T.few; omega, fun r hr => ?_⟩
  obtain ⟨i, hi⟩ := List.getElem?_of_mem hr
  have hil : i < rs.length := (List.getElem?_eq_some_iff.mp hi).1
  obtain ⟨b, e⟩ := T.at_ i _ (List.getElem?_eq_getElem (by rw [← T.len]; exact hil))
  rw [hi] at e
  cases e
  exact nm_name b (T.sm _ (List.getElem_mem ..))
theorem found_off (b : Bool) (q : Node) : ∀ (nds : List Node) (rs : List (Str × Str)) (k : Nat), rs.length = nds.length → (∀ i nd, nds[i]? = some nd → ∃ b, rs[i]? = some (mkS (casC b (nmC nd)), mkS (apC (k + i + 2)))) →
    found rs (mkS (casC b (nmC q))) = match idx nds q with | some i => .str (mkS (apC (k + i + 2))) | none => .none
  | [], rs, k, hl, _ => by
    have : rs = [] := List.eq_nil_of_length_eq_zero hl
    subst this; rfl
  | nd :: nds, [], k, hl, _ => by simp at hl
  | nd :: nds, r :: rs, k, hl, ha => by
    obtain ⟨b0, e0⟩ := ha 0 nd rfl
    cases e0
    rw [found_cons, show (mkS (casC b0 (nmC nd)), mkS (apC (k + 0 + 2))).1 = mkS (casC b0 (nmC nd)) from rfl, lowEq_name, idx]
    by_cases h : nd = q
    · rw [decide_eq_true h, if_pos rfl, if_pos h]
    · rw [decide_eq_false h, if_neg (by decide), if_neg h]
      rw [found_off b q nds rs (k + 1) (by simpa using hl) fun i nd' e => by
        obtain ⟨b1, e1⟩ := ha (i + 1) nd' (by simpa using e)
        refine ⟨b1, ?_⟩
        rw [show k + 1 + i + 2 = k + (i + 1) + 2 by omega]
        simpa using e1]
      cases idx nds q with
      | none => rfl
      | some i => show D.str _ = D.str _; rw [show k + 1 + i + 2 = k + (i + 1) + 2 by omega]
theorem found_tbl {nds : List Node} {rs : List (Str × Str)} (T : Tbl nds rs) (b : Bool) (q : Node) : found rs (mkS (casC b (nmC q))) = match idx nds q with | some i => .str (mkS (apC (i + 2))) | none => .none := by
  have := found_off b q nds rs 0 T.len (fun i nd e => by rw [Nat.zero_add]; exact T.at_ i nd e)
  rw [this]
  cases idx nds q with
  | none => rfl
  | some i => show D.str _ = D.str _; rw [Nat.zero_add]
theorem Tbl.snoc {nds : List Node} {rs : List (Str × Str)} (T : Tbl nds rs) {nd : Node} (h : Sm nd) (hl : nds.length < 60) (b : Bool) : Tbl (nds ++ [nd]) (rs ++ [(mkS (casC b (nmC nd)), mkS (apC (nds.length + 2)))]) := by
  refine ⟨by simp [T.len], fun i x e => ?_, by simp; omega, fun x hx => ?_⟩
  · rcases Nat.lt_or_ge i nds.length with z | z
    · rw [List.getElem?_append_left z] at e
      rw [List.getElem?_append_left (by rw [T.len]; exact z)]
      exact T.at_ i x e
    · rw [List.getElem?_append_right z] at e
      have hz : i - nds.length = 0 := by
        rcases Nat.eq_zero_or_pos (i - nds.length) with y | y
        · exact y
        · rw [List.getElem?_eq_none (show [nd].length ≤ _ from y)] at e; cases e
      rw [hz] at e
      cases e
      have e : i = nds.length := by omega
      subst e
      exact ⟨b, by rw [List.getElem?_append_right (by rw [T.len]; exact Nat.le_refl _), T.len, Nat.sub_self]; rfl⟩
  · rcases List.mem_append.mp hx with hx | hx
    · exact T.sm x hx
    · rw [List.mem_singleton.mp hx]; exact h
section
variable {C : Cx} {A : Around} {σ : Sto} {P : D → Sto → Prop}
theorem law_read (X : (KK C.w.params).In C.h₀) (rm : Rm 4 A) {cs : List Nat} (hc : ∀ c ∈ cs, 1 ≤ c % 32) (h : P (.int (rdC cs)) σ) : Ca C A (.ref 194) [.str (mkS cs)] [] σ P := by
  refine ca_fun (n := 3) rm (fn_law_read X) (bnd1 (x := "word") (fun _ => rfl) ⟨rfl, fun L => ?_⟩)
  have rm' := rm.deeper (fenv (fd 194) 194 L)
  repeat walk_at "S"
  refine ⟨_, _, itr_str rm'.handled, trivial, fun ds ρ σ' => σ = σ' ∧ ∃ (rest : List Nat) (a : Nat), ds = rest.map (fun c => D.str ⟨#[c]⟩) ∧ (∀ c ∈ rest, 1 ≤ c % 32) ∧ rest.foldl (fun a c => a * 16 + (c % 32 - 1)) a = rdC cs ∧
    ρ = ([("number", .int a)] : Rho), ([("number", .int ((0 : Nat) : Int))] : Rho), SubL.sub ⟨rfl, trivial⟩, ⟨rfl, cs, 0, by simp [signs, mkS], hc, rfl, rfl⟩, ?_, ?_⟩
  · rintro ρ _ ⟨rfl, rest, a, e, _, hf, rfl⟩
    have : rest = [] := by cases rest <;> simp_all
    subst this
    repeat walk_at "S"
    rw [← hf] at h
    exact h
  · rintro d ds ρ _ ⟨rfl, rest, a, e, hm, hf, rfl⟩
    cases rest with
    | nil => cases e
    | cons c rest =>
      cases e
      have hcc := hm c (.head _)
      repeat walk_at "S"
      refine ⟨trivial, _, ?_, rfl, rest, a * 16 + (c % 32 - 1), rfl, fun q hq => hm q (.tail _ hq), hf, rfl⟩
      refine SubL.sub ⟨?_, trivial⟩
      show some (D.int _) = some (D.int _)
      have : (a : Int) * 16 + (c : Int) % 32 - 1 = ((a * 16 + (c % 32 - 1) : Nat) : Int) := by omega
      rw [this]
theorem cas_read (b : Bool) (n : Nat) : ∀ c ∈ casC b (apC n), 1 ≤ c % 32 := fun c hc => by have := cas_range b n c hc; omega
theorem read_word (X : (KK C.w.params).In C.h₀) (rm : Rm 4 A) (b : Bool) {n : Nat} (h : P (.int n) σ) : Ca C A (.ref 194) [.str (mkS (casC b (apC n)))] [] σ P :=
  law_read X rm (cas_read b n) (by rw [rd_cas]; exact h)
noncomputable def gRead (d : D) : Option D := match d with | .str s => some (.int (rdC s.cps.toList)) | _ => none
theorem split_name (b : Bool) {nd : Node} (hs : Sm nd) (h : P (.list [.str (mkS (casC b (apC nd.1))), .str (mkS (casC b (apC nd.2.1))), .str (mkS (casC b (apC nd.2.2)))]) σ) : Ca C A (.builtin "str.split") [.str (mkS (casC b (nmC nd))), .str (Str.ofString "-")] [] σ P := by
  have hp := parts_spl (casC b (nmC nd)) 45
  rw [spl_name] at hp
  have hl := name_len b hs
  have hsz : sizeLine = 16777216 := rfl
  have hy : (Str.ofString "-").length = 1 := rfl
  have e45 : Str.ofString "-" = ⟨#[45]⟩ := rfl
  rw [e45]
  refine ca_split ?_ rfl ?_ (by rw [mkS_len]; omega) ?_ ?_
  · have k1 : Builtin.Str.strKind (mkS (casC b (nmC nd))) = 1 := by
      unfold Builtin.Str.strKind
      rw [if_pos]
      rw [← Array.all_toList, List.all_eq_true]
      intro c hc
      have := name_chars b nd c hc
      exact decide_eq_true (by omega)
    have k2 : Builtin.Str.strKind (⟨#[45]⟩ : Str) = 1 := by simp [Builtin.Str.strKind]
    have k3 : (⟨#[45]⟩ : Str).length = 1 := rfl
    rw [k1, k2, k3, mkS_len, decide_eq_false (by omega), decide_eq_false (by omega)]; rfl
  · have := congrArg List.length hp
    rw [length_partsBetween] at this
    cases ho : Builtin.Str.occurrences (mkS (casC b (nmC nd))) ⟨#[45]⟩ 0 (mkS (casC b (nmC nd))).length ((mkS (casC b (nmC nd))).length + 1) with
    | nil => rw [ho] at this; simp at this
    | cons _ _ => rfl
  · show (Builtin.Str.partsBetween _ _ 1).length ≤ _
    rw [hp]; exact Nat.le_of_ble_eq_true rfl
  · show P (.list ((Builtin.Str.partsBetween _ _ 1).map .str)) σ
    rw [hp]; exact h
theorem law_knot (X : (KK C.w.params).In C.h₀) (rm : Rm 8 A) {nds : List Node} {rs : List (Str × Str)} (T : Tbl nds rs) {n : Nat} (hn : n < nds.length + 2) (h : P (.list [.int (knot nds n).1, .int (knot nds n).2.1, .int (knot nds n).2.2]) σ) :
    Ca C A (.ref 199) [.list (rs.map fun r => .str r.1), .int n] [] σ P := by
  refine ca_fun (n := 7) rm (fn_law_knot X) (bnd2 (x := "names") (y := "number") (fun _ _ => rfl) ⟨rfl, fun L => ?_⟩)
  have rm' := rm.deeper (fenv (fd 199) 199 L)
  have hfew := T.few
  repeat walk_at "S"
  split
  · rename_i hq
    have hq : n < 2 := by have := of_decide_eq_true hq; omega
    rw [knot_leaf hq] at h
    repeat walk_at "S"
    exact h
  · rename_i hq
    have hq : 2 ≤ n := by
      rcases Nat.lt_or_ge n 2 with z | z
      · exact absurd (decide_eq_true (by omega)) hq
      · exact z
    obtain ⟨b, e⟩ := T.at_ _ _ (knot_node hq hn)
    have hsm : Sm (knot nds n) := T.sm _ (List.mem_of_getElem? (knot_node hq hn))
    generalize knot nds n = nd at *
    repeat walk_at "S"
    refine op_item_list (d := .str (mkS (casC b (nmC nd)))) (by omega) (by omega) ?_ ?_
    · rw [show ((n : Int) - 2).toNat = n - 2 by omega, List.getElem?_map, e]; rfl
    refine ⟨_, gm_split, kp_builtin, ?_⟩
    repeat walk_at "S"
    refine split_name b hsm ?_
    refine ⟨_, _, itr_list rm'.handled, trivial, Nat.le_of_ble_eq_true rfl, fun Dd Lc => comp_go gRead _ .refl trivial ?_ ?_⟩
    · intro d hd
      obtain ⟨m, hm, rfl⟩ : ∃ m, m ∈ [nd.1, nd.2.1, nd.2.2] ∧ D.str (mkS (casC b (apC m))) = d := by
        simp only [List.mem_cons, List.not_mem_nil, or_false] at hd
        rcases hd with rfl | rfl | rfl
        · exact ⟨_, by simp, rfl⟩
        · exact ⟨_, by simp, rfl⟩
        · exact ⟨_, by simp, rfl⟩
      repeat walk_at "S"
      refine read_word (C := C.hid Dd) X (rm'.le (by decide)) b ?_
      refine ⟨rfl, ?_⟩
      show some (D.int (rdC (casC b (apC m)))) = _
      rw [rd_cas]
    · show P (.list [.int (rdC (casC b (apC nd.1))), .int (rdC (casC b (apC nd.2.1))), .int (rdC (casC b (apC nd.2.2)))]) σ
      rw [rd_cas, rd_cas, rd_cas]
      exact h
end
section
theorem pow2_bits {n : Nat} (h : n ≤ 3) : ((Builtin.Int.intBits 2 : Nat) : Int) * (n : Int) ≤ 2 ^ 27 := by
  have : Builtin.Int.intBits 2 ≤ 2 := intBits_le (by decide)
  have h1 : ((Builtin.Int.intBits 2 : Nat) : Int) * (n : Int) ≤ 2 * 3 := Int.mul_le_mul (by omega) (by omega) (by omega) (by omega)
  exact Int.le_trans h1 (by decide)
theorem pow2_small {n : Nat} (h : n ≤ 3) : (0 : Int) < 2 ^ n ∧ (2 : Int) ^ n < 1073741824 := by
  have : n = 0 ∨ n = 1 ∨ n = 2 ∨ n = 3 := by omega
  rcases this with rfl | rfl | rfl | rfl <;> decide
end
noncomputable def bitD (L : List Nat) : D := .list (L.map fun (n : Nat) => D.int n)
theorem bitD_len (L : List Nat) : (L.map fun (n : Nat) => D.int n).length = L.length := List.length_map ..
theorem dt_bit (L : List Nat) (n : Nat) : Dt (n + 1) (bitD L) := by
  intro d hd
  obtain ⟨m, _, rfl⟩ := List.mem_map.mp hd
  cases n <;> exact trivial
theorem eqv_bit : ∀ (a b : List Nat), PyData.eqv (toP (bitD a)) (toP (bitD b)) = decide (a = b) := by
  have key : ∀ a b : List Nat, PyData.eqvAll (toPs (a.map fun (n : Nat) => D.int n)) (toPs (b.map fun (n : Nat) => D.int n)) = decide (a = b) := by
    intro a
    induction a with
    | nil => intro b; cases b <;> simp [toPs, PyData.eqvAll]
    | cons x a ih =>
      intro b
      cases b with
      | nil => simp [toPs, PyData.eqvAll]
      | cons y b =>
        simp only [List.map_cons, toPs, toP, PyData.eqvAll, PyData.eqv, ih b]
        by_cases h : x = y
        · subst h; simp
        · have : ((x : Int) == (y : Int)) = false := by rw [beq_eq_false_iff_ne]; omega
          simp [this, h]
  intro a b
  show PyData.eqv (.list _) (.list _) = _
  rw [PyData.eqv]; exact key a b
theorem any_bit (due : List (List Nat)) (x : List Nat) : ((toPs (due.map bitD)).any fun y => PyData.eqv y (toP (bitD x))) = decide (x ∈ due) := by
  induction due with
  | nil => simp [toPs]
  | cons y due ih =>
    simp only [List.map_cons, toPs, List.any_cons, ih, eqv_bit]
    by_cases h : y = x
    · subst h; simp
    · have h' : ¬ x = y := fun z => h z.symm
      simp [h, h']
theorem bit_rep (k : Nat) (L : List Nat) : (List.replicate k (L.map fun (n : Nat) => D.int n)).flatten = (List.replicate k L).flatten.map fun (n : Nat) => D.int n := by
  rw [List.map_flatten, List.map_replicate]
section
variable {C : Cx} {A : Around} {σ : Sto} {P : D → Sto → Prop}
theorem law_least (X : (KK C.w.params).In C.h₀) (rm : Rm 4 A) {k : Nat} (hk : k ≤ 3) {V : List Nat} (hV : V.length = 2 ^ k) (h : P (bitD (least k V)) σ) : Ca C A (.ref 216) [bitD V] [] σ P := by
  refine ca_fun (n := 3) rm (fn_law_least X) (bnd1 (x := "truth") (fun _ => rfl) ⟨rfl, fun L => ?_⟩)
  have rm' := rm.deeper (fenv (fd 216) 216 L)
  have hs : sizeLine = 16777216 := rfl
  have hp8 : ∀ j, j ≤ 3 → 2 ^ j ≤ 8 := fun j hj => by
    have : j = 0 ∨ j = 1 ∨ j = 2 ∨ j = 3 := by omega
    rcases this with rfl | rfl | rfl | rfl <;> decide
  have hv8 := hp8 k hk
  repeat walk_at "S"
  refine ca_len_list (by rw [bitD_len]; omega) ?_
  rw [bitD_len]
  repeat walk_at "S"
  refine ex1_while (fun j ρ' σ' => σ = σ' ∧ j ≤ 3 ∧ ∃ W : List Nat, W.length = 2 ^ j ∧ least j W = least k V ∧ ρ' = ([("truth", bitD W), ("half", .int ((W.length / 2 : Nat) : Int))] : Rho)) k ⟨rfl, hk, V, hV, rfl, rfl⟩ ?_
  rintro j ρ' _ ⟨rfl, hj, W, hW, hl, rfl⟩
  have hw8 := hp8 j hj
  cases j with
  | zero =>
    have e0 : W.length / 2 = 0 := by simp [hW]
    repeat walk_at "S"
    rw [e0]
    repeat walk_at "S"
    rw [← hl] at h
    exact h
  | succ j =>
    have e1 : W.length / 2 = 2 ^ j := by rw [hW, Nat.pow_succ]; omega
    have tp := Nat.two_pow_pos j
    repeat walk_at "S"
    rw [e1, show decide (((2 ^ j : Nat) : Int) > 0) = true from decide_eq_true (by omega)]
    repeat walk_at "S"
    refine cut_list (by rw [bitD_len]; omega) ?_
    rw [cutL_take, ← List.map_take]
    repeat walk_at "S"
    refine cut_list (by rw [bitD_len]; omega) ?_
    rw [cutL_drop, ← List.map_drop]
    refine op_eq_data rm' (dt_bit (W.take (2 ^ j)) 7) (dt_bit (W.drop (2 ^ j)) 7) ⟨_, rfl, ?_⟩
    have ev := eqv_bit (W.take (2 ^ j)) (W.drop (2 ^ j))
    unfold bitD at ev
    rw [ev]
    rw [least] at hl
    by_cases hq : W.take (2 ^ j) = W.drop (2 ^ j)
    · rw [if_pos hq] at hl
      rw [decide_eq_true hq]
      have ht : (W.take (2 ^ j)).length = 2 ^ j := by rw [List.length_take, hW, Nat.pow_succ]; omega
      repeat walk_at "S"
      refine cut_list (by rw [bitD_len]; omega) ?_
      rw [cutL_take, ← List.map_take]
      repeat walk_at "S"
      refine ⟨j, by omega, _, ?_, rfl, by omega, W.take (2 ^ j), ht, hl, rfl⟩
      refine SubL.sub ⟨rfl, ?_, trivial⟩
      show some (D.int _) = some (D.int _)
      rw [ht]; simp
    · rw [if_neg hq] at hl
      rw [decide_eq_false hq]
      repeat walk_at "S"
      rw [← hl] at h
      exact h
theorem law_places (X : (KK C.w.params).In C.h₀) (rm : Rm 8 A) {nds : List Node} {rs : List (Str × Str)} (T : Tbl nds rs) (w : WF nds) (h : P (.list ((plc nds nds.length).map bitD)) σ) :
    Ca C A (.ref 209) [.list (rs.map fun r => .str r.1)] [] σ P := by
  refine ca_fun (n := 7) rm (fn_law_places X) (bnd1 (x := "names") (fun _ => rfl) ⟨rfl, fun L => ?_⟩)
  have rm' := rm.deeper (fenv (fd 209) 209 L)
  have hs : sizeLine = 16777216 := rfl
  have hfew := T.few
  have hlen := T.len
  repeat walk_at "S"
  refine ⟨_, _, itr_list rm'.handled, trivial, fun ds ρ σ' => σ = σ' ∧ ∃ (i : Nat) (rest : List (Str × Str)), ds = rest.map (fun r => D.str r.1) ∧ rs.drop i = rest ∧ i ≤ rs.length ∧ ρ = ([("places", .list ((plc nds i).map bitD))] : Rho), ([("places", .list ((plc nds 0).map bitD))] : Rho), SubL.sub ⟨?_, trivial⟩, ⟨rfl, 0, rs, rfl, rfl, Nat.zero_le _, rfl⟩, ?_, ?_⟩
  · rw [plc_zero]; rfl
  · rintro ρ _ ⟨rfl, i, rest, e, hd, hi, rfl⟩
    have hr : rest = [] := by cases rest <;> simp_all
    have : i = rs.length := by
      have := congrArg List.length hd
      rw [hr] at this
      simp at this; omega
    subst this
    repeat walk_at "S"
    rw [hlen]
    exact h
  · rintro d ds ρ _ ⟨rfl, i, rest, e, hd, hi, rfl⟩
    cases rest with
    | nil => cases e
    | cons r rest =>
      cases e
      have hri : rs[i]? = some r := by rw [← List.head?_drop, hd]; rfl
      have hil : i < nds.length := by have := (List.getElem?_eq_some_iff.mp hri).1; omega
      have e2 : rs.drop (i + 1) = rest := by rw [← List.drop_drop, hd]; rfl
      have hkn := knot_node (nds := nds) (n := i + 2) (by omega) (by omega)
      rw [show i + 2 - 2 = i by omega] at hkn
      obtain ⟨b, eb⟩ := T.at_ i _ hkn
      rw [hri] at eb
      cases eb
      have hsm : Sm (knot nds (i + 2)) := T.sm _ (List.mem_of_getElem? hkn)
      have hwn := w.node (n := i + 2) (by omega) (by omega)
      have hht : ht nds (i + 2) = (2 - (knot nds (i + 2)).1) + 1 := by unfold ht; omega
      have hfn : fn nds (ht nds (i + 2)) (i + 2) = fn nds (2 - (knot nds (i + 2)).1) (knot nds (i + 2)).2.1 ++ fn nds (2 - (knot nds (i + 2)).1) (knot nds (i + 2)).2.2 := by rw [hht, fn_top hht]
      have hps := plc_succ nds i
      rw [hfn] at hps
      generalize knot nds (i + 2) = nd at *
      obtain ⟨t, lo, hi'⟩ := nd
      dsimp only at *
      have p8 : ∀ n, (fn nds (ht nds n) n).length ≤ 8 ∧ 0 < (fn nds (ht nds n) n).length := fun n => by
        rw [fnLen]
        have := ht_le nds n
        have : ht nds n = 0 ∨ ht nds n = 1 ∨ ht nds n = 2 ∨ ht nds n = 3 := by omega
        rcases this with e | e | e | e <;> rw [e] <;> decide
      have hh : 2 ^ (2 - t) ≤ 4 := by
        have : t = 0 ∨ t = 1 ∨ t = 2 := by omega
        rcases this with rfl | rfl | rfl <;> decide
      have hdv : ∀ n, 2 ^ (2 - t) / (fn nds (ht nds n) n).length ≤ 4 := fun n => Nat.le_trans (Nat.div_le_self _ _) hh
      have hpl : (plc nds i).length ≤ 62 := by simp [plc]; omega
      have hrep : ∀ n, ht nds n ≤ 2 - t → (List.replicate (2 ^ (2 - t) / (fn nds (ht nds n) n).length) ((fn nds (ht nds n) n).map fun (n : Nat) => D.int n)).flatten = (fn nds (2 - t) n).map fun (n : Nat) => D.int n := fun n hn => by
        rw [bit_rep, rep_fn' hn]
      have hcast : ∀ n, ((2 : Int) ^ (2 - t)) / (((fn nds (ht nds n) n).length : Nat) : Int) = ((2 ^ (2 - t) / (fn nds (ht nds n) n).length : Nat) : Int) := fun n => by
        rw [Int.natCast_ediv]; simp
      repeat walk_at "S"
      refine ⟨_, gm_split, kp_builtin, ?_⟩
      repeat walk_at "S"
      refine split_name b hsm ?_
      refine ⟨_, _, itr_list rm'.handled, trivial, Nat.le_of_ble_eq_true rfl, fun Dd Lc => comp_go gRead _ .refl trivial ?_ ?_⟩
      · intro d hd
        obtain ⟨m, rfl⟩ : ∃ m, D.str (mkS (casC b (apC m))) = d := by
          simp only [List.mem_cons, List.not_mem_nil, or_false] at hd
          rcases hd with rfl | rfl | rfl
          · exact ⟨_, rfl⟩
          · exact ⟨_, rfl⟩
          · exact ⟨_, rfl⟩
        repeat walk_at "S"
        refine read_word (C := C.hid Dd) X (rm'.le (by decide)) b ?_
        refine ⟨rfl, ?_⟩
        show some (D.int (rdC (casC b (apC m)))) = _
        rw [rd_cas]
      show Asg _ _ _ _ _ _ _ (D.list [.int (rdC (casC b (apC t))), .int (rdC (casC b (apC lo))), .int (rdC (casC b (apC hi')))]) _
      rw [rd_cas, rd_cas, rd_cas]
      refine asg_unlist rm'.handled rfl ?_
      repeat walk_at "S"
      rw [show (2 : Int) - (t : Int) = ((2 - t : Nat) : Int) from by omega]
      refine op_pow_int (by omega) (pow2_bits (by omega)) ?_
      rw [Int.toNat_natCast]
      have it : ∀ n, n < i + 2 → ((plc nds i).map bitD)[((n : Nat) : Int).toNat]? = some (bitD (fn nds (ht nds n) n)) := fun n hn => by
        rw [Int.toNat_natCast, List.getElem?_map, plc_at nds hn]; rfl
      repeat walk_at "S"
      refine op_item_list (by omega) (by omega) (it lo (by omega)) ?_
      repeat walk_at "S"
      refine op_item_list (by omega) (by omega) (it lo (by omega)) ?_
      repeat walk_at "S"
      have q1 := p8 lo
      have q2 := p8 hi'
      refine ca_len_list (by rw [bitD_len]; omega) ?_
      rw [bitD_len]
      refine op_fdiv_int (by omega) (by omega) ?_
      rw [hcast]
      have r1 := hdv lo
      have r2 := hdv hi'
      refine op_mul_list (by rw [bitD_len]; exact Nat.le_trans (Nat.mul_le_mul q1.1 r1) (by decide)) (by omega) ?_
      rw [hrep lo (by omega)]
      repeat walk_at "S"
      refine op_item_list (by omega) (by omega) (it hi' (by omega)) ?_
      repeat walk_at "S"
      refine op_item_list (by omega) (by omega) (it hi' (by omega)) ?_
      repeat walk_at "S"
      refine ca_len_list (by rw [bitD_len]; omega) ?_
      rw [bitD_len]
      refine op_fdiv_int (by omega) (by omega) ?_
      rw [hcast]
      refine op_mul_list (by rw [bitD_len]; exact Nat.le_trans (Nat.mul_le_mul q2.1 r2) (by decide)) (by omega) ?_
      rw [hrep hi' (by omega)]
      refine op_add_list (by rw [bitD_len, bitD_len, fnLen, fnLen]; omega) ?_
      rw [← List.map_append]
      repeat walk_at "S"
      refine op_add_list (by rw [List.length_map]; show (plc nds i).length + 1 ≤ _; omega) ?_
      repeat walk_at "S"
      refine ⟨trivial, _, ?_, rfl, i + 1, rest, rfl, e2, by omega, rfl⟩
      refine SubL.sub ⟨?_, trivial⟩
      have hq : (plc nds (i + 1)).map bitD = (plc nds i).map bitD ++ [bitD (fn nds (2 - t) lo ++ fn nds (2 - t) hi')] := by rw [hps, List.map_append]; rfl
      rw [hq]; rfl
end
section
variable {C : Cx} {A : Around} {env : Env} {wr : Bool} {ρ : Rho} {σ : Sto}
/-- a statement whose ways meet -/
theorem ex_join {st : Stmt} {rest : List Stmt} {P : Fl → Rho → Sto → Prop} (ρ₀ : Rho) (σ₀ : Sto) (h1 : Ex1 C A env wr ρ σ st fun fl ρ' σ' => fl = .nx ∧ σ₀ = σ' ∧ Sub ρ₀ ρ') (h2 : Ex C A env wr ρ₀ σ₀ rest P) : Ex C A env wr ρ σ (st :: rest) P :=
  ex_cons (h1.mono fun f r σ' => by rintro ⟨rfl, rfl, hs⟩; exact Ex.sub hs h2)
end

noncomputable def gWord (d : D) : Option D := match d with | .int i => some (.str (mkS (apC i.toNat))) | _ => none
theorem join3 (a b c : List Nat) : Txt.join (Str.ofString "-") [mkS a, mkS b, mkS c] = mkS (a ++ 45 :: (b ++ 45 :: c)) := by
  rw [join_eq]
  show mkS a ++ mkS [45] ++ (mkS b ++ mkS [45] ++ mkS c) = _
  rw [mkS_app, mkS_app, mkS_app, mkS_app]
  congr 1; simp
theorem cmb_int (way a b : Nat) : ((way : Int) / 2 ^ ((2 : Int) * a + b).toNat % 2) = ((cmb way a b : Nat) : Int) := by
  have : ((2 : Int) * a + b).toNat = 2 * a + b := by omega
  rw [this, cmb]; simp
section
variable {C : Cx} {A : Around} {σ : Sto} {P : D → Sto → Prop}
theorem law_both (way : Nat) (hw : way < 16) : ∀ (k : Nat) (C : Cx) (A : Around) (P : D → Sto → Prop) (_ : (KK C.w.params).In C.h₀) (_ : Rm (12 + 2 * k) A) {x l : Addr} {vs : List Value} {nds : List Node} {rs : List (Str × Str)} {a b : Nat} (_ : Tb C Hc x l) (_ : Tbl nds rs) (_ : WF nds)
    (_ : a < nds.length + 2) (_ : b < nds.length + 2) (_ : ht nds a ≤ k) (_ : ht nds b ≤ k) (_ : k ≤ 3) (_ : nds.length + 2 ^ k ≤ 60)
    (_ : ∀ us rs', Tbl (both way k nds a b).2 rs' → P (.int (both way k nds a b).1) [(l, us, hdrs rs')]), Ca C A (.ref 204) [.raw (.ref x), .int way, .int a, .int b] [] [(l, vs, hdrs rs)] P := by
  intro k
  induction k with
  | zero =>
    intro C A P X rm x l vs nds rs a b T hT w ha hb hka hkb hk3 hfew h
    have h1 := ht_zero w ha (by omega)
    have h2 := ht_zero w hb (by omega)
    refine ca_fun (n := 11) rm (fn_law_both X) (bnd4 (x := "table") (y := "way") (z := "one") (t := "other") (fun _ _ _ _ => rfl) ⟨rfl, fun L => ?_⟩)
    have rm' := rm.deeper (fenv (fd 204) 204 L)
    repeat walk_at "S"
    rw [show decide ((a : Int) < 2) = true from decide_eq_true (by omega)]
    repeat walk_at "S"
    rw [show decide ((b : Int) < 2) = true from decide_eq_true (by omega)]
    repeat walk_at "S"
    refine op_mul_int (.of_left (intBits_le_64 (by decide) (by decide))) ?_
    repeat walk_at "S"
    have e3 : (2 : Int) * a + b = ((2 * a + b : Nat) : Int) := by omega
    rw [e3]
    refine op_pow_int (by omega) (pow2_bits (by omega)) ?_
    rw [Int.toNat_natCast]
    refine op_fdiv_int (pow2_small (by omega)).1 (pow2_small (by omega)).2 ?_
    repeat walk_at "S"
    have e4 := cmb_int way a b
    rw [e3, Int.toNat_natCast] at e4
    rw [e4]
    exact h vs rs hT
  | succ k ih =>
    intro C A P X rm x l vs nds rs a b T hT w ha hb hka hkb hk3 hfew h
    refine ca_fun (n := 13 + 2 * k) (rm.le (by omega)) (fn_law_both X) (bnd4 (x := "table") (y := "way") (z := "one") (t := "other") (fun _ _ _ _ => rfl) ⟨rfl, fun L => ?_⟩)
    have rm' : Rm (13 + 2 * k) (A.deeper (fenv (fd 204) 204 L)) := Rm.deeper (rm.le (by omega)) _
    have hfewT := hT.few
    have hin : (l, vs, hdrs rs) ∈ [(l, vs, hdrs rs)] := List.mem_singleton_self _
    refine ex_cons (ex1_if (Bv.mono (P := fun c σ' => c = decide (a < 2 ∧ b < 2) ∧ σ' = [(l, vs, hdrs rs)]) ?_ ?_))
    · repeat walk_at "S"
      by_cases h1 : a < 2
      · rw [show decide ((a : Int) < 2) = true from decide_eq_true (by omega)]
        repeat walk_at "S"
        refine ⟨?_, rfl⟩
        simp only [decide_eq_decide]; omega
      · rw [show decide ((a : Int) < 2) = false from decide_eq_false (by omega)]
        repeat walk_at "S"
        refine ⟨?_, rfl⟩
        symm; rw [decide_eq_false_iff_not]; omega
    rintro c _ ⟨rfl, rfl⟩
    by_cases hlf : a < 2 ∧ b < 2
    · rw [decide_eq_true hlf]
      have h1 := hlf.1
      have h2 := hlf.2
      repeat walk_at "S"
      refine op_mul_int (.of_left (intBits_le_64 (by decide) (by decide))) ?_
      repeat walk_at "S"
      have e3 : (2 : Int) * a + b = ((2 * a + b : Nat) : Int) := by omega
      rw [e3]
      refine op_pow_int (by omega) (pow2_bits (by omega)) ?_
      rw [Int.toNat_natCast]
      refine op_fdiv_int (pow2_small (by omega)).1 (pow2_small (by omega)).2 ?_
      repeat walk_at "S"
      have e4 := cmb_int way a b
      rw [e3, Int.toNat_natCast] at e4
      rw [e4]
      have hB : both way (k + 1) nds a b = (cmb way a b, nds) := by rw [both, if_pos hlf]
      rw [hB] at h
      exact h vs rs hT
    · rw [decide_eq_false hlf]
      refine ite_f ?_
      have hB : both way (k + 1) nds a b = both way (k + 1) nds a b := rfl
      conv at hB => rhs; rw [both, if_neg hlf]
      have hta : (knot nds a).1 ≤ 3 := by
        rcases Nat.lt_or_ge a 2 with y | y
        · rw [knot_leaf y]; exact Nat.le_refl 3
        · have := (w.node y ha).1; omega
      have htb : (knot nds b).1 ≤ 3 := by
        rcases Nat.lt_or_ge b 2 with y | y
        · rw [knot_leaf y]; exact Nat.le_refl 3
        · have := (w.node y hb).1; omega
      have ht3 : min (knot nds a).1 (knot nds b).1 < 3 := by
        rcases Nat.lt_or_ge a 2 with y | y
        · rcases Nat.lt_or_ge b 2 with z | z
          · exact absurd ⟨y, z⟩ hlf
          · have := (w.node z hb).1; omega
        · have := (w.node y ha).1; omega
      have hMe : max (ht nds a) (ht nds b) = 3 - min (knot nds a).1 (knot nds b).1 := by unfold ht; omega
      repeat walk_at "S"
      refine keys X (rm'.le (by omega)) T hin hT.rows ?_
      repeat walk_at "S"
      refine law_knot X (rm'.le (by omega)) hT ha ?_
      repeat walk_at "S"
      refine law_knot X (rm'.le (by omega)) hT hb ?_
      repeat walk_at "S"
      refine ca_min2 rm'.handled ?_
      rw [show (if ((knot nds b).1 : Int) < ((knot nds a).1 : Int) then ((knot nds b).1 : Int) else ((knot nds a).1 : Int)) = ((min (knot nds a).1 (knot nds b).1 : Nat) : Int) from by split <;> omega]
      generalize ht' : min (knot nds a).1 (knot nds b).1 = t at ht3 hMe hB ⊢
      obtain ⟨M, hM⟩ : ∃ M, 3 - t = M + 1 := ⟨3 - t - 1, by omega⟩
      have hMk : M ≤ k := by omega
      obtain ⟨a1, a2, a3, a4, a5⟩ := sides_ok w ha ht3 hM (by omega)
      obtain ⟨b1, b2, b3, b4, b5⟩ := sides_ok w hb ht3 hM (by omega)
      refine ex_join ([("table", .raw (.ref x)), ("way", .int way), ("one", .int a), ("other", .int b), ("right", .list [.int (knot nds b).1, .int (knot nds b).2.1, .int (knot nds b).2.2]), ("thing", .int t), ("left", .list [.int t, .int (sides nds t a).1, .int (sides nds t a).2])] : Rho) [(l, vs, hdrs rs)] ?_ ?_
      · repeat walk_at "S"
        by_cases hg : (knot nds a).1 > t
        · rw [show decide (((knot nds a).1 : Int) > (t : Int)) = true from decide_eq_true (by omega)]
          have hsd : sides nds t a = (a, a) := by rw [sides, if_pos hg]
          repeat walk_at "S"
          refine SubL.sub ⟨rfl, rfl, rfl, rfl, rfl, rfl, ?_, trivial⟩
          rw [hsd]; rfl
        · rw [show decide (((knot nds a).1 : Int) > (t : Int)) = false from decide_eq_false (by omega)]
          have hsd : sides nds t a = ((knot nds a).2.1, (knot nds a).2.2) := by rw [sides, if_neg hg]
          have hte : t = (knot nds a).1 := by omega
          repeat walk_at "S"
          refine SubL.sub ⟨rfl, rfl, rfl, rfl, rfl, rfl, ?_, trivial⟩
          rw [hsd, hte]; rfl
      refine ex_join ([("table", .raw (.ref x)), ("way", .int way), ("thing", .int t), ("left", .list [.int t, .int (sides nds t a).1, .int (sides nds t a).2]), ("right", .list [.int t, .int (sides nds t b).1, .int (sides nds t b).2])] : Rho) [(l, vs, hdrs rs)] ?_ ?_
      · repeat walk_at "S"
        by_cases hg : (knot nds b).1 > t
        · rw [show decide (((knot nds b).1 : Int) > (t : Int)) = true from decide_eq_true (by omega)]
          have hsd : sides nds t b = (b, b) := by rw [sides, if_pos hg]
          repeat walk_at "S"
          refine SubL.sub ⟨rfl, rfl, rfl, rfl, ?_, trivial⟩
          rw [hsd]; rfl
        · rw [show decide (((knot nds b).1 : Int) > (t : Int)) = false from decide_eq_false (by omega)]
          have hsd : sides nds t b = ((knot nds b).2.1, (knot nds b).2.2) := by rw [sides, if_neg hg]
          have hte : t = (knot nds b).1 := by omega
          repeat walk_at "S"
          refine SubL.sub ⟨rfl, rfl, rfl, rfl, ?_, trivial⟩
          rw [hsd, hte]; rfl
      have hpow : 2 ^ (k + 1) = 2 ^ k + 2 ^ k := by rw [Nat.pow_succ]; omega
      generalize sides nds t a = sa at *
      generalize sides nds t b = sb at *
      have gx := good_both way k nds sa.1 sb.1 w a1 b1 (by omega) (by omega)
      repeat walk_at "S"
      refine ih C _ _ X (rm'.le (by omega)) T hT w a1 b1 (by omega) (by omega) (by omega) (by omega) fun us1 rs1 hT1 => ?_
      generalize both way k nds sa.1 sb.1 = xx at gx hT1 hB ⊢
      obtain ⟨m0, n1⟩ := xx
      obtain ⟨e1, he1, hc1⟩ := gx.ext
      dsimp only at he1 hT1 hB ⊢
      have hl1 : n1.length = nds.length + e1.length := by rw [he1, List.length_append]
      have gy := good_both way k n1 sa.2 sb.2 gx.wf (by omega) (by omega) (by rw [he1, ht_ext e1 a2]; omega) (by rw [he1, ht_ext e1 b2]; omega)
      repeat walk_at "S"
      refine ih C _ _ X (rm'.le (by omega)) T hT1 gx.wf (by omega) (by omega) (by rw [he1, ht_ext e1 a2]; omega) (by rw [he1, ht_ext e1 b2]; omega) (by omega) (by omega) fun us2 rs2 hT2 => ?_
      generalize both way k n1 sa.2 sb.2 = yy at gy hT2 hB ⊢
      obtain ⟨m1, n2⟩ := yy
      obtain ⟨e2, he2, hc2⟩ := gy.ext
      dsimp only at he2 hT2 hB ⊢
      have hl2 : n2.length = n1.length + e2.length := by rw [he2, List.length_append]
      have l0 : m0 < n1.length + 2 := gx.lt
      have l1 : m1 < n2.length + 2 := gy.lt
      have hin2 : (l, us2, hdrs rs2) ∈ [(l, us2, hdrs rs2)] := List.mem_singleton_self _
      have hlen2 := hT2.len
      repeat walk_at "S"
      split
      · rename_i hq
        have hq : m0 = m1 := by have := eq_of_beq hq; omega
        repeat walk_at "S"
        rw [if_pos hq] at hB
        rw [hB] at h
        rw [hq]
        exact h us2 rs2 hT2
      · rename_i hq
        have hq : ¬ m0 = m1 := fun z => hq (beq_iff_eq.mpr (by omega))
        rw [if_neg hq] at hB
        rw [hB] at h
        clear hB
        repeat walk_at "S"
        have hp : ∀ n : Nat, n < 100 → n < 16 ^ 1000 := fun n hn => Nat.lt_of_lt_of_le hn (by decide)
        have hsm : Sm (t, m0, m1) := ⟨ht3, by show m0 < 70; omega, by show m1 < 70; omega⟩
        refine ⟨_, _, itr_list rm'.handled, trivial, Nat.le_of_ble_eq_true rfl, fun Dd Lc => comp_go gWord _ .refl trivial ?_ ?_⟩
        · intro d hd
          obtain ⟨n, hn, rfl⟩ : ∃ n : Nat, n < 100 ∧ D.int n = d := by
            simp only [List.mem_cons, List.not_mem_nil, or_false] at hd
            rcases hd with rfl | rfl | rfl
            · exact ⟨t, by omega, rfl⟩
            · exact ⟨m0, by omega, rfl⟩
            · exact ⟨m1, by omega, rfl⟩
          repeat walk_at "S"
          refine law_word (C := C.hid Dd) X (rm'.le (by omega)) (hp n hn) ?_
          exact ⟨rfl, rfl⟩
        repeat walk_at "S"
        have w0 := apC_len 5 t (by omega)
        have w1 := apC_len 5 m0 (by omega)
        have w2 := apC_len 5 m1 (by omega)
        refine ca_join (xs := [mkS (apC t), mkS (apC m0), mkS (apC m1)]) (joinOk_of ?_) ?_
        · show (mkS (apC t)).length + ((mkS (apC m0)).length + ((mkS (apC m1)).length + 0)) + 3 * 1 ≤ _
          rw [mkS_len, mkS_len, mkS_len]; omega
        rw [join3]
        have hlenc : ∀ {C : Cx} {A : Around} {P : D → Sto → Prop}, (KK C.w.params).In C.h₀ → Tb C Hc x l → Rm 3 A → P (.int n2.length) [(l, us2, hdrs rs2)] → Ca C A (.builtin "len") [.raw (.ref x)] [] [(l, us2, hdrs rs2)] P :=
          fun X T rm h => ca_len_own X T rfl rfl (len X (Rm.in1 rm) T hin2 hT2.rows ⟨_, rfl, ⟨by omega, by omega⟩, by rw [hlen2]; exact h⟩)
        refine ex_join ([("table", .raw (.ref x)), ("name", .str (mkS (casC (decide (n2.length % 2 = 1)) (nmC (t, m0, m1)))))] : Rho) [(l, us2, hdrs rs2)] ?_ ?_
        · repeat walk_at "S"
          refine hlenc X T (rm'.le (by omega)) ?_
          repeat walk_at "S"
          by_cases hod : n2.length % 2 = 1
          · rw [show (((n2.length : Nat) : Int) % 2 == 1) = true from beq_iff_eq.mpr (by omega), decide_eq_true hod]
            have hlw : (mkS (nmC (t, m0, m1))).length ≤ 5592405 := by rw [mkS_len]; have := (name_len false hsm).1; rw [cas_len] at this; omega
            repeat walk_at "S"
            refine SubL.sub ⟨rfl, ?_, trivial⟩
            have hx : Txt.lower (mkS (apC t ++ 45 :: (apC m0 ++ 45 :: apC m1))) = mkS (casC true (nmC (t, m0, m1))) := lower_name false (t, m0, m1)
            rw [hx]; rfl
          · rw [show (((n2.length : Nat) : Int) % 2 == 1) = false from beq_eq_false_iff_ne.mpr (by omega), decide_eq_false hod]
            repeat walk_at "S"
            refine SubL.sub ⟨rfl, rfl, trivial⟩
        generalize decide (n2.length % 2 = 1) = b0
        repeat walk_at "S"
        refine hlenc X T (rm'.le (by omega)) ?_
        repeat walk_at "S"
        rw [show ((n2.length : Nat) : Int) + 2 = ((n2.length + 2 : Nat) : Int) from by omega]
        refine law_word X (rm'.le (by omega)) (hp _ (by omega)) ?_
        repeat walk_at "S"
        have hvc : clean (mkS (apC (n2.length + 2))) := clean_mkS fun c hc => by have := apC_range _ c hc; omega
        have hvl := apC_len 5 (n2.length + 2) (by omega)
        have hft := found_tbl hT2 b0 (t, m0, m1)
        refine setdefault X (rm'.le (by omega)) T hT2.rows (nm_name b0 hsm) hvc (by rw [mkS_len]; exact Nat.lt_of_le_of_lt hvl (by decide)) (fun hf us3 => ?_) (fun w3 hf => ?_)
        · rw [hf] at hft
          cases hi : idx n2 (t, m0, m1) with
          | some i => rw [hi] at hft; cases hft
          | none =>
            rw [ins, hi] at h
            refine read_word X (rm'.le (by omega)) false ?_
            exact h us3 _ (hT2.snoc hsm (by omega) b0)
        · rw [hf] at hft
          cases hi : idx n2 (t, m0, m1) with
          | none => rw [hi] at hft; cases hft
          | some i =>
            rw [hi] at hft
            cases hft
            rw [ins, hi] at h
            refine read_word X (rm'.le (by omega)) false ?_
            exact h us2 _ hT2
end
theorem rangeItems_nat (n : Nat) : rangeItems 0 1 n = (List.range' 0 n).map fun (i : Nat) => D.int i := by
  simp [rangeItems, List.range_eq_range']
theorem foldD_ge : ∀ (l due : List (List Nat)), due.length ≤ (l.foldl addD due).length
  | [], _ => Nat.le_refl _
  | x :: l, due => by
    have h1 := foldD_ge l (addD due x)
    have h2 : due.length ≤ (addD due x).length := by unfold addD; split <;> simp
    rw [List.foldl_cons]; omega
theorem least_len : ∀ (k : Nat) (V : List Nat), (least k V).length ≤ V.length
  | 0, _ => Nat.le_refl _
  | k + 1, V => by
    rw [least]
    split
    · exact Nat.le_trans (least_len k _) (by rw [List.length_take]; omega)
    · exact Nat.le_refl _
noncomputable def castI (L : List Nat) : List Int := L.map fun (n : Nat) => (n : Int)
theorem bit_ints (l : List (List Nat)) : l.map bitD = (l.map castI).map intsD := by
  rw [List.map_map]
  refine List.map_congr_left fun L _ => ?_
  show D.list _ = D.list _
  rw [castI, List.map_map]; rfl
theorem dt_bits (l : List (List Nat)) : Dt 8 (.list (l.map bitD)) := by
  intro d hd
  obtain ⟨L, _, rfl⟩ := List.mem_map.mp hd
  exact dt_bit L 6
theorem zip_range (way : Nat) {V W : List Nat} (hV : V.length = 8) (hW : W.length = 8) : (List.range 8).map (fun p => cmb way (V.getD p 0) (W.getD p 0)) = List.zipWith (cmb way) V W := by
  refine List.ext_getElem (by simp [hV, hW]) fun i h1 h2 => ?_
  simp at h1
  have a1 : i < V.length := by omega
  have a2 : i < W.length := by omega
  simp [a1, a2]
noncomputable def gThing (k : Nat) (d : D) : Option D := match d with | .int p => some (.int (p / 2 ^ (2 - k) % 2)) | _ => none
theorem gThing_eq (k : Nat) : ((List.range' 0 8).map fun (i : Nat) => D.int i).filterMap (gThing k) = (thingT k).map fun (n : Nat) => D.int n := by
  rw [thingT, List.map_map, List.filterMap_map, ← List.filterMap_eq_map, List.range_eq_range']
  congr 1
noncomputable def gPair (V W : List Nat) (d : D) : Option D := match d with | .int p => some (.int (2 * (V.getD p.toNat 0 : Nat) + (W.getD p.toNat 0 : Nat))) | _ => none
theorem gPair_eq (V W : List Nat) : ((List.range' 0 8).map fun (i : Nat) => D.int i).filterMap (gPair V W) = ((List.range 8).map fun p => 2 * V.getD p 0 + W.getD p 0).map fun (n : Nat) => D.int n := by
  rw [List.map_map, List.filterMap_map, ← List.filterMap_eq_map, List.range_eq_range']
  congr 1
noncomputable def gCmb (way : Nat) (d : D) : Option D := match d with | .int q => some (.int ((way : Int) / 2 ^ q.toNat % 2)) | _ => none
theorem gCmb_eq (way : Nat) (V W : List Nat) (hV : V.length = 8) (hW : W.length = 8) : (((List.range 8).map fun p => 2 * V.getD p 0 + W.getD p 0).map fun (n : Nat) => D.int n).filterMap (gCmb way) = (List.zipWith (cmb way) V W).map fun (n : Nat) => D.int n := by
  rw [← zip_range way hV hW, List.filterMap_map, List.filterMap_map, List.map_map, ← List.filterMap_eq_map]
  congr 1
noncomputable def gPlace (nds : List Node) (d : D) : Option D := match d with | .int n => some (bitD (fn nds (ht nds n.toNat) n.toNat)) | _ => none
theorem gPlace_eq (nds : List Node) (told : List Nat) : (told.map fun (n : Nat) => D.int n).filterMap (gPlace nds) = (told.map fun n => fn nds (ht nds n) n).map bitD := by
  rw [List.filterMap_map, List.map_map, ← List.filterMap_eq_map]; rfl
theorem bits_fn {nds : List Node} (w : WF nds) {n : Nat} (hn : n < nds.length + 2) (k : Nat) (hk : ht nds n ≤ k) : Bits (castI (fn nds k n)) := by
  intro x hx
  obtain ⟨c, hc, rfl⟩ := List.mem_map.mp hx
  have := fn_bits w k n hn hk c hc
  omega
theorem nodes_bits {nds : List Node} (w : WF nds) : ∀ L ∈ (nodesL nds).map castI, Bits L ∧ L.length ≤ 8 := by
  intro L hL
  obtain ⟨V, hV, rfl⟩ := List.mem_map.mp hL
  obtain ⟨i, hi, rfl⟩ := List.mem_map.mp hV
  have hi := List.mem_range.mp hi
  refine ⟨bits_fn w (by omega) _ (Nat.le_refl _), ?_⟩
  rw [castI, List.length_map, fnLen]
  have := ht_le nds (i + 2)
  exact Nat.le_trans (Nat.pow_le_pow_right (by decide) this) (by decide)
theorem castI_inj {a b : List Nat} (h : castI a = castI b) : a = b := by
  have := congrArg (fun l : List Int => l.map Int.toNat) h
  simpa [castI, List.map_map, Function.comp_def] using this
theorem nodup_cast {l : List (List Nat)} (h : l.Nodup) : (l.map castI).Nodup := by
  rw [List.nodup_iff_pairwise_ne, List.pairwise_map]
  exact h.imp fun hne e => hne (castI_inj e)
theorem drop_take_mid (V : List Nat) (a b : Nat) : (V.take (a + b)).drop a = (V.drop a).take b := by
  rw [List.drop_take]; congr 1; omega
section
variable {C : Cx} {A : Around} {σ : Sto} {P : D → Sto → Prop}
theorem itr_upto (hh : A.handled = none) (n : Nat) (hn : n < 2 ^ 62) : Itr C A (.range 0 n 1) σ none ((List.range' 0 n).map fun (i : Nat) => D.int i) := by
  rw [← rangeItems_nat]
  exact itr_range hh (small_one (by decide) (by decide) (by omega) (by omega)) (by rw [rangeSize_nat]; simp)
theorem itr_step (hh : A.handled = none) {j : Nat} (hj : j = 1 ∨ j = 2 ∨ j = 3) : Itr C A (.range 0 8 ((2 ^ j : Nat) : Int)) σ none ((List.range (8 / 2 ^ j)).map fun (q : Nat) => D.int ((q * 2 ^ j : Nat) : Int)) := by
  have e : rangeItems 0 ((2 ^ j : Nat) : Int) (8 / 2 ^ j) = (List.range (8 / 2 ^ j)).map fun (q : Nat) => D.int ((q * 2 ^ j : Nat) : Int) := by
    unfold rangeItems
    refine List.map_congr_left fun q _ => ?_
    congr 1
    rw [Int.natCast_mul]; omega
  rw [← e]
  rcases hj with rfl | rfl | rfl
  · exact itr_range hh (by decide) (by decide)
  · exact itr_range hh (by decide) (by decide)
  · exact itr_range hh (by decide) (by decide)

theorem tailD (X : (KK C.w.params).In C.h₀) (rm : Rm 12 A) {L : Addr} {nds : List Node} {told : List Nat} {truths : List (List Nat)} (I : Inv nds told truths) (hl : 3 ≤ nds.length) (hu : nds.length ≤ 60) (ht9 : truths.length ≤ 9) {Q : Fl → Rho → Sto → Prop} (h : ∀ ρ', Q (.ret (.bool true)) ρ' σ) :
    Ex C A (fenv (fd 221) 221 L) true [("truths", .list (truths.map bitD)), ("places", .list ((plc nds nds.length).map bitD))] σ ((fbody 221).drop 7) Q := by
  have hs : sizeLine = 16777216 := rfl
  have hV8 : ∀ V ∈ truths, V.length = 8 := fun V hV => by
    rw [I.tru] at hV
    obtain ⟨n, _, rfl⟩ := List.mem_map.mp hV
    exact fnLen nds 3 n
  repeat walk_at "S"
  refine ⟨_, _, itr_list rm.handled, trivial, fun ds ρ σ' => σ = σ' ∧ ∃ (rest due : List (List Nat)), ds = rest.map bitD ∧ (∀ V ∈ rest, V.length = 8) ∧ rest.length ≤ 9 ∧ due.length + 7 * rest.length ≤ 63 ∧ (rest.flatMap blocksOf).foldl addD due = dueOf truths ∧
    ρ = ([("places", .list ((plc nds nds.length).map bitD)), ("due", .list (due.map bitD))] : Rho), ([("places", .list ((plc nds nds.length).map bitD)), ("due", .list (([] : List (List Nat)).map bitD))] : Rho), SubL.sub ⟨rfl, rfl, trivial⟩, ⟨rfl, truths, [], rfl, hV8, ht9, by simp; omega, rfl, rfl⟩, ?_, ?_⟩
  · rintro ρ _ ⟨rfl, rest, due, e, _, _, _, hf, rfl⟩
    have : rest = [] := by cases rest <;> simp_all
    subst this
    have hf : due = dueOf truths := hf
    subst hf
    have hperm := due_perm I
    have hnl : (nodesL nds).length = nds.length := by simp [nodesL]
    have hdl : (dueOf truths).length = nds.length := by rw [← hperm.length_eq, hnl]
    have hpc : ((nodesL nds).map castI).Perm ((dueOf truths).map castI) := hperm.map _
    have hbn := nodes_bits I.wf
    have hbd : ∀ L ∈ (dueOf truths).map castI, Bits L ∧ L.length ≤ 8 := fun L hL => hbn L (hpc.mem_iff.mpr hL)
    repeat walk_at "S"
    refine cut_list (by rw [List.length_map]; simp [plc]; omega) ?_
    rw [show (some (2 : Int)) = some ((2 : Nat) : Int) from rfl, cutL_drop, ← List.map_drop, plc_drop]
    repeat walk_at "S"
    rw [bit_ints (nodesL nds)]
    refine ca_sorted (m := 10) (rk := rkk 8) rm (by rw [List.length_map]; omega) (by rw [List.length_map]; omega) (fun L hL M hM => lex_rkk 8 L M (hbn L hL).1 (hbn M hM).1 (hbn L hL).2 (hbn M hM).2) (fun L hL M hM e => rkk_inj 8 L M (hbn L hL).1 (hbn M hM).1 (hbn L hL).2 (hbn M hM).2 e) (nodup_cast (nodesL_nodup I.wf)) fun Ms1 hp1 hs1 => ?_
    repeat walk_at "S"
    rw [bit_ints (dueOf truths)]
    refine ca_sorted (m := 10) (rk := rkk 8) rm (by rw [List.length_map]; omega) (by rw [List.length_map]; omega) (fun L hL M hM => lex_rkk 8 L M (hbd L hL).1 (hbd M hM).1 (hbd L hL).2 (hbd M hM).2) (fun L hL M hM e => rkk_inj 8 L M (hbd L hL).1 (hbd M hM).1 (hbd L hL).2 (hbd M hM).2 e) (nodup_cast (hperm.nodup_iff.mp (nodesL_nodup I.wf))) fun Ms2 hp2 hs2 => ?_
    have hM : Ms1 = Ms2 := List.Perm.eq_of_pairwise (fun a b ha hb h1 h2 => by
      have ha := hbn a (hp1.mem_iff.mp ha)
      have hb := hbd b (hp2.mem_iff.mp hb)
      exact rkk_inj 8 a b ha.1 hb.1 ha.2 hb.2 (Int.le_antisymm h1 h2)) hs1 hs2 ((hp1.trans hpc).trans hp2.symm)
    subst hM
    have hdt : Dt 8 (.list (Ms1.map intsD)) := by
      intro d hd
      obtain ⟨L, _, rfl⟩ := List.mem_map.mp hd
      intro d hd
      obtain ⟨m, _, rfl⟩ := List.mem_map.mp hd
      exact trivial
    refine op_eq_data rm hdt hdt ?_
    rw [dt_eqv 8 _ hdt]
    exact h _
  · rintro d ds ρ _ ⟨rfl, rest, due, e, hm, h9, hdl, hf, rfl⟩
    cases rest with
    | nil => cases e
    | cons V rest =>
      cases e
      have hV := hm V (.head _)
      rw [List.flatMap_cons, List.foldl_append] at hf
      simp only [List.length_cons] at h9 hdl
      have hb7 : ((blocksOf V).foldl addD due).length ≤ due.length + 7 := foldD_len (blocksOf V) due
      repeat walk_at "S"
      refine ⟨_, _, itr_list rm.handled, trivial, fun ds ρ σ' => σ = σ' ∧ ∃ (js : List Nat) (cur : List (List Nat)), ds = js.map (fun j => D.int ((2 ^ j : Nat) : Int)) ∧ (∀ j ∈ js, j = 1 ∨ j = 2 ∨ j = 3) ∧ (js.flatMap fun j => sizeBlocks j V).foldl addD cur = (blocksOf V).foldl addD due ∧
        ρ = ([("places", .list ((plc nds nds.length).map bitD)), ("truth", bitD V), ("due", .list (cur.map bitD))] : Rho), ([("places", .list ((plc nds nds.length).map bitD)), ("truth", bitD V), ("due", .list (due.map bitD))] : Rho), SubL.sub ⟨rfl, rfl, rfl, trivial⟩, ⟨rfl, [3, 2, 1], due, rfl, by decide, rfl, rfl⟩, ?_, ?_⟩
      · rintro ρ _ ⟨rfl, js, cur, e, _, hq, rfl⟩
        have : js = [] := by cases js <;> simp_all
        subst this
        have hq : cur = (blocksOf V).foldl addD due := hq
        subst hq
        repeat walk_at "S"
        refine ⟨trivial, _, ?_, rfl, rest, _, rfl, fun W hW => hm W (.tail _ hW), by omega, by omega, hf, rfl⟩
        walk_at "SUB"
      · rintro d ds ρ _ ⟨rfl, js, cur, e, hjs, hq, rfl⟩
        cases js with
        | nil => cases e
        | cons j js =>
          cases e
          have hj := hjs j (.head _)
          rw [List.flatMap_cons, List.foldl_append] at hq
          have hpj : 0 < 2 ^ j ∧ 2 ^ j ≤ 8 := by rcases hj with rfl | rfl | rfl <;> decide
          have hg := foldD_ge (js.flatMap fun j => sizeBlocks j V) ((sizeBlocks j V).foldl addD cur)
          rw [hq] at hg
          repeat walk_at "S"
          refine ca_range3 (by omega) (by omega) ?_
          refine ⟨_, _, itr_step rm.handled hj, trivial, fun ds ρ σ' => σ = σ' ∧ ∃ (qs : List Nat) (cu : List (List Nat)), ds = qs.map (fun q => D.int ((q * 2 ^ j : Nat) : Int)) ∧ (∀ q ∈ qs, q * 2 ^ j + 2 ^ j ≤ 8) ∧ (qs.map fun q => least j ((V.drop (q * 2 ^ j)).take (2 ^ j))).foldl addD cu = (sizeBlocks j V).foldl addD cur ∧
            ρ = ([("places", .list ((plc nds nds.length).map bitD)), ("truth", bitD V), ("size", .int ((2 ^ j : Nat) : Int)), ("due", .list (cu.map bitD))] : Rho), ([("places", .list ((plc nds nds.length).map bitD)), ("truth", bitD V), ("size", .int ((2 ^ j : Nat) : Int)), ("due", .list (cur.map bitD))] : Rho), SubL.sub ⟨rfl, rfl, rfl, rfl, trivial⟩, ⟨rfl, List.range (8 / 2 ^ j), cur, rfl, ?_, rfl, rfl⟩, ?_, ?_⟩
          · rcases hj with rfl | rfl | rfl <;> decide
          · rintro ρ _ ⟨rfl, qs, cu, e, _, hr, rfl⟩
            have : qs = [] := by cases qs <;> simp_all
            subst this
            have hr : cu = (sizeBlocks j V).foldl addD cur := hr
            subst hr
            repeat walk_at "S"
            refine ⟨trivial, _, ?_, rfl, js, _, rfl, fun i hi => hjs i (.tail _ hi), hq, rfl⟩
            walk_at "SUB"
          · rintro d ds ρ _ ⟨rfl, qs, cu, e, hqs, hr, rfl⟩
            cases qs with
            | nil => cases e
            | cons q qs =>
              cases e
              have hq8 := hqs q (.head _)
              have hg2 := foldD_ge ((q :: qs).map fun q => least j ((V.drop (q * 2 ^ j)).take (2 ^ j))) cu
              rw [hr] at hg2
              rw [List.map_cons, List.foldl_cons] at hr
              have hbl : ((V.drop (q * 2 ^ j)).take (2 ^ j)).length = 2 ^ j := by rw [List.length_take, List.length_drop, hV]; omega
              repeat walk_at "S"
              refine cut_list (by rw [bitD_len]; omega) ?_
              rw [show ((q * 2 ^ j : Nat) : Int) + ((2 ^ j : Nat) : Int) = ((q * 2 ^ j + 2 ^ j : Nat) : Int) from by omega, cutL_mid, ← List.map_take, ← List.map_drop, drop_take_mid]
              repeat walk_at "S"
              refine law_least (V := (V.drop (q * 2 ^ j)).take (2 ^ j)) X (rm.le (by decide)) (show j ≤ 3 by omega) hbl ?_
              generalize hL : least j ((V.drop (q * 2 ^ j)).take (2 ^ j)) = Lx at hr ⊢
              have hLl : Lx.length ≤ 8 := by rw [← hL]; exact Nat.le_trans (least_len j _) (by omega)
              repeat walk_at "S"
              refine ca_len_list (by rw [bitD_len]; omega) ?_
              rw [bitD_len]
              repeat walk_at "S"
              have done : ∀ ρ', Sub [("places", .list ((plc nds nds.length).map bitD)), ("truth", bitD V), ("size", .int ((2 ^ j : Nat) : Int)), ("due", .list ((addD cu Lx).map bitD))] ρ' → (InSt none σ ∧ ∃ ρ₃, Sub ρ₃ ρ' ∧ σ = σ ∧ ∃ (qs' : List Nat) (cu : List (List Nat)), qs.map (fun q => D.int ((q * 2 ^ j : Nat) : Int)) = qs'.map (fun q => D.int ((q * 2 ^ j : Nat) : Int)) ∧ (∀ q ∈ qs', q * 2 ^ j + 2 ^ j ≤ 8) ∧ (qs'.map fun q => least j ((V.drop (q * 2 ^ j)).take (2 ^ j))).foldl addD cu = (sizeBlocks j V).foldl addD cur ∧
                ρ₃ = ([("places", .list ((plc nds nds.length).map bitD)), ("truth", bitD V), ("size", .int ((2 ^ j : Nat) : Int)), ("due", .list (cu.map bitD))] : Rho)) :=
                fun ρ' hs' => ⟨trivial, _, hs', rfl, qs, addD cu Lx, rfl, fun i hi => hqs i (.tail _ hi), hr, rfl⟩
              by_cases h1 : Lx.length > 1
              · rw [show decide (((Lx.length : Nat) : Int) > 1) = true from decide_eq_true (by omega)]
                repeat walk_at "S"
                refine op_notin_data rm (dt_bit Lx 7) (dt_bits cu) ⟨_, rfl, ?_⟩
                rw [any_bit]
                by_cases h2 : Lx ∈ cu
                · rw [decide_eq_true h2]
                  repeat walk_at "S"
                  refine done _ ?_
                  rw [addD, if_neg (fun z => z.2 h2)]
                  walk_at "SUB"
                · rw [decide_eq_false h2]
                  repeat walk_at "S"
                  refine op_add_list (by rw [List.length_map]; show cu.length + 1 ≤ _; omega) ?_
                  repeat walk_at "S"
                  refine done _ ?_
                  rw [addD, if_pos ⟨h1, h2⟩, List.map_append]
                  walk_at "SUB"
              · rw [show decide (((Lx.length : Nat) : Int) > 1) = false from decide_eq_false (by omega)]
                repeat walk_at "S"
                refine done _ ?_
                rw [addD, if_neg (fun z => h1 z.1)]
                walk_at "SUB"
end
section
variable {C : Cx} {A : Around}
theorem ex_headers {env : Env} {wr : Bool} {ρ : Rho} {σ : Sto} {t : Str} {pt p pos pos2 : Pos} {rest : List Stmt} {P : Fl → Rho → Sto → Prop} (X : (KK C.w.params).In C.h₀) (rm : Rm 9 A)
    (h : ∀ ps x l, Tb (C.pin ps) Hc x l → Ex (C.pin ps) A env wr (setR ρ t (.raw (.ref x))) ((l, [], []) :: σ) rest P) (hst : CanSt env wr t)
    (hkn : env.kindOf "Headers" = some .globalImplicit) (hsw : swapsWith (.Call (.Name "Headers" p) [] [] pos) (some (.Name t pt)) pos2.line env = pure false) :
    Ex C A env wr ρ σ (.Assign [.Name t pt] (.Call (.Name "Headers" p) [] [] pos) pos2 :: rest) P := by
  refine ex_table (K := KK C.w.params) (Hc := Hc) (fI := 63) (fd := fd 63) (n := 6) rm X (mgK X rfl) hkn (by decide) hst hsw rfl rfl rfl rfl (fn_init X) (fun C' a σ R e hR => bnd1d (K := KK C.w.params) (by rw [e]; exact X) (fun _ _ => rfl) hR) rfl rfl rfl rfl rfl (fun L => rfl) ?_ ?_ h
  · intro C1 A1 L x e1 e2 e3 rm1
    have X1 : (KK C1.w.params).In C1.h₀ := by rw [e1, e3]; exact X
    refine ex1_assign (ev_ifexp (bv_compare (ev_var rfl (ev_none (op_isnot_none ⟨_, rfl, ite_f (ev_nil_mut fun l hl => ?_)⟩))))) (by walk_at "CAN")
    refine ⟨rfl, ?_⟩
    repeat walk_at "S"
    refine ca_type_store (List.mem_cons_self ..) ?_
    repeat walk_at "S"
    exact ⟨l, rfl, rfl, rfl⟩
  · intro C1 A1 L l ρ'' e1 e2 e3 rm1 hl
    refine ex1_if (bv_value (ev_bool (tru_bool (ite_t (ex_cons (ex1_for (ev_var hl ⟨_, _, itr_store rm1.handled (List.mem_cons_self ..), List.mem_cons_self .., ?_⟩)))))))
    exact ex_nil ⟨rfl, rfl⟩
local macro_rules | `(tactic| walk_at "XS") => `(tactic| refine ex_headers (by assumption) (Rm.le (by assumption) (by decide)) (fun ps x l T => ?_) (by walk_at "CAN") rfl rfl)

variable {σ : Sto} {P : D → Sto → Prop}
noncomputable def natOf : D → Nat
  | .int i => i.toNat
  | _ => 0
noncomputable def gLeast (d : D) : Option D := match d with | .list ds => some (bitD (least 3 (ds.map natOf))) | _ => none
theorem natOf_bit (V : List Nat) : (V.map fun (n : Nat) => D.int n).map natOf = V := by
  rw [List.map_map]
  exact List.map_id' V
theorem gLeast_eq (l : List (List Nat)) : (l.map bitD).filterMap gLeast = (l.map (least 3)).map bitD := by
  rw [List.filterMap_map, List.map_map, ← List.filterMap_eq_map]
  congr 1
  funext V
  show some (bitD (least 3 ((V.map fun (n : Nat) => D.int n).map natOf))) = some (bitD (least 3 V))
  rw [natOf_bit]
theorem both_ge {nds : List Node} {told : List Nat} {truths : List (List Nat)} (I : Inv nds told truths) (way : Nat) {a b : Nat} (ha : a ∈ told) (hb : b ∈ told) : nds.length ≤ (both way 3 nds a b).2.length := by
  obtain ⟨e, he, _⟩ := (good_both way 3 nds a b I.wf (I.val a ha) (I.val b hb) (ht_le _ _) (ht_le _ _)).ext
  rw [he, List.length_append]; omega
theorem tailC (X : (KK C.w.params).In C.h₀) (rm : Rm 12 A) {L x l : Addr} {us : List Value} {rs : List (Str × Str)} {nds : List Node} {told : List Nat} {truths : List (List Nat)} (T : Tb C Hc x l) (hT : Tbl nds rs) (I : Inv nds told truths) (hl : 3 ≤ nds.length) (ht9 : truths.length ≤ 9) (ho9 : told.length ≤ 9)
    {Q : Fl → Rho → Sto → Prop} (h : ∀ ρ', Q (.ret (.bool true)) ρ' [(l, us, hdrs rs)]) :
    Ex C A (fenv (fd 221) 221 L) true [("table", .raw (.ref x)), ("told", bitD told), ("truths", .list (truths.map bitD))] [(l, us, hdrs rs)] ((fbody 221).drop 5) Q := by
  have hs : sizeLine = 16777216 := rfl
  have hu := hT.few
  have hin : (l, us, hdrs rs) ∈ [(l, us, hdrs rs)] := List.mem_singleton_self _
  repeat walk_at "S"
  refine keys X (rm.le (by decide)) T hin hT.rows ?_
  repeat walk_at "S"
  refine law_places X (rm.le (by decide)) hT I.wf ?_
  repeat walk_at "S"
  refine ⟨_, _, itr_list rm.handled, trivial, by rw [List.length_map]; omega, fun Dd Lc => comp_go (gPlace nds) _ .refl trivial ?_ ?_⟩
  · intro d hd
    obtain ⟨n, hn, rfl⟩ := List.mem_map.mp hd
    have hn := I.val n hn
    repeat walk_at "S"
    refine op_item_list (d := bitD (fn nds (ht nds n) n)) (by omega) (by omega) ?_ ?_
    · rw [Int.toNat_natCast, List.getElem?_map, plc_at nds hn]; rfl
    exact ⟨rfl, rfl⟩
  rw [gPlace_eq]
  repeat walk_at "S"
  refine ⟨_, _, itr_list rm.handled, trivial, by rw [List.length_map]; omega, fun Dd Lc => comp_go gLeast _ .refl trivial ?_ ?_⟩
  · intro d hd
    obtain ⟨V, hV, rfl⟩ := List.mem_map.mp hd
    have hV8 : V.length = 2 ^ 3 := by
      rw [I.tru] at hV
      obtain ⟨n, _, rfl⟩ := List.mem_map.mp hV
      exact fnLen nds 3 n
    repeat walk_at "S"
    refine law_least (C := C.hid Dd) X (rm.le (by decide)) (by decide) hV8 ⟨rfl, ?_⟩
    show some (bitD (least 3 ((V.map fun (n : Nat) => D.int n).map natOf))) = _
    rw [natOf_bit]
  rw [gLeast_eq, least_all I]
  refine op_ne_self rm (dt_bits _) ⟨_, rfl, ite_f (ex_nil ?_)⟩
  refine Ex.sub ?_ (tailD X rm I hl hu ht9 h)
  walk_at "SUB"
theorem tailB (X : (KK C.w.params).In C.h₀) (rm : Rm 20 A) {L x l : Addr} {us : List Value} {rs : List (Str × Str)} {script : List Int} (T : Tb C Hc x l) (hT : Tbl (thingN 3) rs) (hsl : script.length ≤ 63)
    {Q : Fl → Rho → Sto → Prop} (h : ∀ ρ' σ', Q (.ret (.bool true)) ρ' σ') :
    Ex C A (fenv (fd 221) 221 L) true [("script", .list (script.map .int)), ("table", .raw (.ref x)), ("told", bitD [2, 3, 4]), ("truths", .list ([thingT 0, thingT 1, thingT 2].map bitD))] [(l, us, hdrs rs)] ((fbody 221).drop 4) Q := by
  have hs : sizeLine = 16777216 := rfl
  repeat walk_at "S"
  refine cut_list (by simp; omega) ?_
  rw [show (some (3 : Int)) = some ((3 : Nat) : Int) from rfl, cutL_take, ← List.map_take]
  refine op_add_list (by simp; omega) ?_
  rw [show ([D.int 54, D.int 22, D.int 216] ++ List.map D.int (List.take 3 script)) = (([54, 22, 216] : List Int) ++ script.take 3).map D.int from rfl]
  have hns : (([54, 22, 216] : List Int) ++ script.take 3).length ≤ 6 := by simp; omega
  generalize (([54, 22, 216] : List Int) ++ script.take 3) = ns at hns ⊢
  refine ⟨_, _, itr_list rm.handled, trivial, fun ds ρ σ' => ∃ (rest : List Int) (nds : List Node) (rs : List (Str × Str)) (us : List Value) (told : List Nat) (truths : List (List Nat)), ds = rest.map .int ∧ σ' = [(l, us, hdrs rs)] ∧ Tbl nds rs ∧ Inv nds told truths ∧ 3 ≤ nds.length ∧ nds.length + 7 * rest.length ≤ 45 ∧ 3 ≤ told.length ∧ told.length + rest.length ≤ 9 ∧
    ρ = ([("table", .raw (.ref x)), ("told", bitD told), ("truths", .list (truths.map bitD))] : Rho), ([("table", .raw (.ref x)), ("told", bitD [2, 3, 4]), ("truths", .list ([thingT 0, thingT 1, thingT 2].map bitD))] : Rho), SubL.sub ⟨rfl, rfl, rfl, trivial⟩, ⟨ns, thingN 3, rs, us, [2, 3, 4], _, rfl, rfl, hT, inv_things, by decide, ?_, by decide, ?_, rfl⟩, ?_, ?_⟩
  · show 3 + 7 * ns.length ≤ 45; omega
  · show 3 + ns.length ≤ 9; omega
  · rintro ρ _ ⟨rest, nds, rs, us, told, truths, e, rfl, hT, I, h3, h45, ht3, ht9, rfl⟩
    have htl : truths.length = told.length := by rw [I.tru, List.length_map]
    exact tailC X (rm.le (by decide)) T hT I h3 (by omega) (by omega) fun ρ' => h ρ' _
  · rintro d ds ρ _ ⟨rest, nds, rs, us, told, truths, e, rfl, hT, I, h3, h45, ht3, ht9, rfl⟩
    cases rest with
    | nil => cases e
    | cons n rest =>
      cases e
      simp only [List.length_cons] at h45 ht9
      have hin : (l, us, hdrs rs) ∈ [(l, us, hdrs rs)] := List.mem_singleton_self _
      have htl : truths.length = told.length := by rw [I.tru, List.length_map]
      have hpos : (0 : Int) < (told.length : Int) := by omega
      obtain ⟨one, eo, ho⟩ : ∃ one : Nat, n / 16 % (told.length : Int) = (one : Int) ∧ one < told.length := by
        have h1 := Int.emod_nonneg (n / 16) (show (told.length : Int) ≠ 0 by omega)
        have h2 := Int.emod_lt_of_pos (n / 16) hpos
        exact ⟨(n / 16 % (told.length : Int)).toNat, by omega, by omega⟩
      obtain ⟨oth, et, hot⟩ : ∃ oth : Nat, n / 16 / (told.length : Int) % (told.length : Int) = (oth : Int) ∧ oth < told.length := by
        have h1 := Int.emod_nonneg (n / 16 / (told.length : Int)) (show (told.length : Int) ≠ 0 by omega)
        have h2 := Int.emod_lt_of_pos (n / 16 / (told.length : Int)) hpos
        exact ⟨(n / 16 / (told.length : Int) % (told.length : Int)).toNat, by omega, by omega⟩
      obtain ⟨way, ew, hw⟩ : ∃ way : Nat, n % 16 = (way : Int) ∧ way < 16 := ⟨(n % 16).toNat, by omega, by omega⟩
      obtain ⟨a, ha⟩ : ∃ a, told[one]? = some a := ⟨_, List.getElem?_eq_getElem ho⟩
      obtain ⟨b, hb⟩ : ∃ b, told[oth]? = some b := ⟨_, List.getElem?_eq_getElem hot⟩
      have ham := List.mem_of_getElem? ha
      have hbm := List.mem_of_getElem? hb
      have hta : truths[one]? = some (fn nds 3 a) := by rw [I.tru, List.getElem?_map, ha]; rfl
      have htb : truths[oth]? = some (fn nds 3 b) := by rw [I.tru, List.getElem?_map, hb]; rfl
      have hva := I.val a ham
      have hvb := I.val b hbm
      have hba := fn_bits I.wf 3 a hva (ht_le _ _)
      have hbb := fn_bits I.wf 3 b hvb (ht_le _ _)
      have hla : (fn nds 3 a).length = 8 := fnLen nds 3 a
      have hlb : (fn nds 3 b).length = 8 := fnLen nds 3 b
      obtain ⟨I', hl'⟩ := inv_step I way ham hbm
      have hge := both_ge I way ham hbm
      repeat walk_at "S"
      refine ca_len_list (by rw [bitD_len]; omega) ?_
      rw [bitD_len]
      refine op_mod_int hpos ?_
      rw [eo]
      repeat walk_at "S"
      refine ca_len_list (by rw [bitD_len]; omega) ?_
      rw [bitD_len]
      refine op_fdiv_int hpos (by omega) ?_
      repeat walk_at "S"
      refine ca_len_list (by rw [bitD_len]; omega) ?_
      rw [bitD_len]
      refine op_mod_int hpos ?_
      rw [et]
      repeat walk_at "S"
      have gd : ∀ (V : List Nat) (p : Nat), V.length = 8 → p < 8 → (V.map fun (n : Nat) => D.int n)[((p : Nat) : Int).toNat]? = some (.int ((V.getD p 0 : Nat) : Int)) := fun V p hV hp => by
        rw [Int.toNat_natCast, List.getElem?_map, List.getD_eq_getElem?_getD, List.getElem?_eq_getElem (by omega)]; rfl
      refine ⟨_, _, itr_upto rm.handled 8 (by decide), trivial, Nat.le_of_ble_eq_true rfl, fun Dd Lc => comp_go (gPair (fn nds 3 a) (fn nds 3 b)) _ .refl trivial ?_ ?_⟩
      · intro d hd
        obtain ⟨p, hp, rfl⟩ := List.mem_map.mp hd
        have hp : p < 8 := by have := List.mem_range'_1.mp hp; omega
        repeat walk_at "S"
        refine op_item_list (d := bitD (fn nds 3 a)) (by omega) (by omega) (by rw [Int.toNat_natCast, List.getElem?_map, hta]; rfl) ?_
        repeat walk_at "S"
        refine op_item_list (by omega) (by omega) (gd _ p hla hp) ?_
        refine op_mul_int (.of_left (intBits_le_64 (by decide) (by decide))) ?_
        repeat walk_at "S"
        refine op_item_list (d := bitD (fn nds 3 b)) (by omega) (by omega) (by rw [Int.toNat_natCast, List.getElem?_map, htb]; rfl) ?_
        repeat walk_at "S"
        refine op_item_list (by omega) (by omega) (gd _ p hlb hp) ?_
        repeat walk_at "S"
        rfl
      rw [gPair_eq]
      have hpr : ∀ q ∈ (List.range 8).map (fun p => 2 * (fn nds 3 a).getD p 0 + (fn nds 3 b).getD p 0), q ≤ 3 := by
        intro q hq
        obtain ⟨p, hp, rfl⟩ := List.mem_map.mp hq
        have hp := List.mem_range.mp hp
        have g1 : (fn nds 3 a).getD p 0 < 2 := by
          rw [List.getD_eq_getElem?_getD, List.getElem?_eq_getElem (by omega)]; exact hba _ (List.getElem_mem ..)
        have g2 : (fn nds 3 b).getD p 0 < 2 := by
          rw [List.getD_eq_getElem?_getD, List.getElem?_eq_getElem (by omega)]; exact hbb _ (List.getElem_mem ..)
        omega
      have hcm := gCmb_eq way (fn nds 3 a) (fn nds 3 b) hla hlb
      have hprl : ((List.range 8).map (fun p => 2 * (fn nds 3 a).getD p 0 + (fn nds 3 b).getD p 0)).length ≤ 100 := by rw [List.length_map, List.length_range]; decide
      generalize (List.range 8).map (fun p => 2 * (fn nds 3 a).getD p 0 + (fn nds 3 b).getD p 0) = prs at hpr hcm hprl ⊢
      repeat walk_at "S"
      refine op_item_list (d := .int a) (by omega) (by omega) (by rw [Int.toNat_natCast, List.getElem?_map, ha]; rfl) ?_
      repeat walk_at "S"
      refine op_item_list (d := .int b) (by omega) (by omega) (by rw [Int.toNat_natCast, List.getElem?_map, hb]; rfl) ?_
      repeat walk_at "S"
      rw [ew]
      refine law_both way hw 3 C _ _ X (rm.le (by decide)) T hT I.wf hva hvb (ht_le _ _) (ht_le _ _) (by decide) (by omega) fun us' rs' hT' => ?_
      generalize both way 3 nds a b = r at I' hl' hge hT' ⊢
      repeat walk_at "S"
      refine op_add_list (by rw [bitD_len]; show told.length + 1 ≤ _; omega) ?_
      repeat walk_at "S"
      refine ⟨_, _, itr_list rm.handled, trivial, by rw [bitD_len]; omega, fun Dd Lc => comp_go (gCmb way) _ .refl trivial ?_ ?_⟩
      · intro d hd
        obtain ⟨q, hq, rfl⟩ := List.mem_map.mp hd
        have hq := hpr q hq
        repeat walk_at "S"
        refine op_pow_int (by omega) (pow2_bits hq) ?_
        rw [Int.toNat_natCast]
        refine op_fdiv_int (pow2_small hq).1 (pow2_small hq).2 ?_
        repeat walk_at "S"
        rw [ew]; rfl
      rw [hcm]
      repeat walk_at "S"
      refine op_add_list (by rw [List.length_map]; show truths.length + 1 ≤ _; omega) ?_
      repeat walk_at "S"
      refine ⟨trivial, _, ?_, rest, r.2, rs', us', told ++ [r.1], truths ++ [List.zipWith (cmb way) (fn nds 3 a) (fn nds 3 b)], rfl, rfl, hT', I', ?_, by omega, by simp; omega, by simp; omega, rfl⟩
      · refine SubL.sub ⟨rfl, ?_, ?_, trivial⟩
        · have hq : bitD (told ++ [r.1]) = .list ((told.map fun (n : Nat) => D.int n) ++ [.int r.1]) := by rw [bitD, List.map_append]; rfl
          rw [hq]; rfl
        · have hq : (truths ++ [List.zipWith (cmb way) (fn nds 3 a) (fn nds 3 b)]).map bitD = truths.map bitD ++ [bitD (List.zipWith (cmb way) (fn nds 3 a) (fn nds 3 b))] := by rw [List.map_append]; rfl
          rw [hq]; rfl
      · omega
end
section
variable {C : Cx} {A : Around}
local macro_rules | `(tactic| walk_at "XS") => `(tactic| refine ex_headers (by assumption) (Rm.le (by assumption) (by decide)) (fun ps x l T => ?_) (by walk_at "CAN") rfl rfl)
variable {P : D → Sto → Prop}
theorem thingN_succ (k : Nat) : thingN (k + 1) = thingN k ++ [(k, 0, 1)] := by
  rw [thingN, List.range_succ, List.map_append]; rfl
theorem idx_thing : ∀ k, k < 3 → idx (thingN k) (k, 0, 1) = none := by decide
theorem law_walk (X : (KK C.w.params).In C.h₀) (rm : Rm 24 A) {script : List Int} (hl : script.length ≤ 63) (h : ∀ σ, P (.bool true) σ) : Ca C A (.ref 221) [.list (script.map .int)] [] [] P := by
  refine ca_fun (n := 23) rm (fn_law X) (bnd1 (x := "script") (fun _ => rfl) ⟨rfl, fun L => ?_⟩)
  have rm' := rm.deeper (fenv (fd 221) 221 L)
  have hs : sizeLine = 16777216 := rfl
  repeat walk_at "S"
  rename_i ps x l T
  have X2 : (KK (C.pin ps).w.params).In (C.pin ps).h₀ := X
  refine ⟨_, _, itr_upto rm'.handled 3 (by decide), trivial, fun ds ρ σ' => ∃ (k : Nat) (rs : List (Str × Str)) (us : List Value), ds = (List.range' k (3 - k)).map (fun (i : Nat) => D.int i) ∧ k ≤ 3 ∧ σ' = [(l, us, hdrs rs)] ∧ Tbl (thingN k) rs ∧
    ρ = ([("script", .list (script.map .int)), ("table", .raw (.ref x)), ("told", bitD ((List.range k).map (· + 2))), ("truths", .list (((List.range k).map thingT).map bitD))] : Rho), _, SubL.sub (ρ' := ([("script", .list (script.map .int)), ("table", .raw (.ref x)), ("told", bitD ((List.range 0).map (· + 2))), ("truths", .list (((List.range 0).map thingT).map bitD))] : Rho)) ⟨rfl, rfl, rfl, rfl, trivial⟩,
    ⟨0, [], [], rfl, Nat.zero_le _, rfl, ⟨rfl, (fun i nd e => by cases e), Nat.zero_le _, (fun _ z => by cases z)⟩, rfl⟩, ?_, ?_⟩
  · rintro ρ _ ⟨k, rs, us, e, hk, rfl, hT, rfl⟩
    have hk3 : k = 3 := by
      have := congrArg List.length e
      simp at this; omega
    subst hk3
    exact tailB X2 (rm'.le (by decide)) T hT hl fun ρ' σ' => h σ'
  · rintro d ds ρ _ ⟨k, rs, us, e, hk, rfl, hT, rfl⟩
    have hk3 : k < 3 := by
      have := congrArg List.length e
      simp at this; omega
    obtain ⟨j, hj⟩ : ∃ j, 3 - k = j + 1 := ⟨3 - k - 1, by omega⟩
    rw [hj, List.range'_succ, List.map_cons] at e
    cases e
    have hin : (l, us, hdrs rs) ∈ [(l, us, hdrs rs)] := List.mem_singleton_self _
    have hp : ∀ n : Nat, n < 100 → n < 16 ^ 1000 := fun n hn => Nat.lt_of_lt_of_le hn (by decide)
    have hsm : Sm (k, 0, 1) := ⟨hk3, by show 0 < 70; decide, by show 1 < 70; decide⟩
    repeat walk_at "S"
    refine ⟨_, _, itr_list rm'.handled, trivial, Nat.le_of_ble_eq_true rfl, fun Dd Lc => comp_go gWord _ .refl trivial ?_ ?_⟩
    · intro d hd
      obtain ⟨n, hn, rfl⟩ : ∃ n : Nat, n < 100 ∧ D.int n = d := by
        simp only [List.mem_cons, List.not_mem_nil, or_false] at hd
        rcases hd with rfl | rfl | rfl
        · exact ⟨k, by omega, rfl⟩
        · exact ⟨0, by omega, rfl⟩
        · exact ⟨1, by omega, rfl⟩
      repeat walk_at "S"
      refine law_word (C := (C.pin ps).hid Dd) X (rm'.le (by decide)) (hp n hn) ?_
      exact ⟨rfl, rfl⟩
    repeat walk_at "S"
    have w0 := apC_len 5 k (by omega)
    have w1 := apC_len 5 0 (by omega)
    have w2 := apC_len 5 1 (by omega)
    refine ca_join (xs := [mkS (apC k), mkS (apC 0), mkS (apC 1)]) (joinOk_of ?_) ?_
    · show (mkS (apC k)).length + ((mkS (apC 0)).length + ((mkS (apC 1)).length + 0)) + 3 * 1 ≤ _
      rw [mkS_len, mkS_len, mkS_len]; omega
    rw [join3]
    repeat walk_at "S"
    rw [show ((k : Nat) : Int) + 2 = ((k + 2 : Nat) : Int) from by omega]
    refine law_word X2 (rm'.le (by decide)) (hp _ (by omega)) ?_
    repeat walk_at "S"
    have hvc : clean (mkS (apC (k + 2))) := clean_mkS fun c hc => by have := apC_range _ c hc; omega
    have hvl := apC_len 5 (k + 2) (by omega)
    have hft := found_tbl hT false (k, 0, 1)
    rw [idx_thing k hk3] at hft
    have hlen : (thingN k).length = k := by simp [thingN]
    refine setdefault (nm := mkS (casC false (nmC (k, 0, 1)))) X2 (rm'.le (by decide)) T hT.rows (nm_name false hsm) hvc (by rw [mkS_len]; exact Nat.lt_of_le_of_lt hvl (by decide)) (fun hf us3 => ?_) (fun w3 hf => ?_)
    · have hT' := hT.snoc hsm (by rw [hlen]; omega) false
      rw [hlen, ← thingN_succ] at hT'
      refine read_word X2 (rm'.le (by decide)) false ?_
      repeat walk_at "S"
      refine op_add_list (by rw [bitD_len]; simp; omega) ?_
      repeat walk_at "S"
      refine ⟨_, _, itr_upto rm'.handled 8 (by decide), trivial, Nat.le_of_ble_eq_true rfl, fun Dd Lc => comp_go (gThing k) _ .refl trivial ?_ ?_⟩
      · intro d hd
        obtain ⟨p, hp, rfl⟩ := List.mem_map.mp hd
        repeat walk_at "S"
        rw [show (2 : Int) - (k : Int) = ((2 - k : Nat) : Int) from by omega]
        refine op_pow_int (by omega) (pow2_bits (by omega)) ?_
        rw [Int.toNat_natCast]
        refine op_fdiv_int (pow2_small (by omega)).1 (pow2_small (by omega)).2 ?_
        repeat walk_at "S"
        rfl
      rw [gThing_eq]
      repeat walk_at "S"
      refine op_add_list (by simp; omega) ?_
      repeat walk_at "S"
      refine ⟨trivial, _, ?_, k + 1, _, us3, by rw [show j = 3 - (k + 1) by omega], by omega, rfl, hT', rfl⟩
      refine SubL.sub ⟨rfl, rfl, ?_, ?_, trivial⟩
      · have hq : bitD ((List.range (k + 1)).map (· + 2)) = .list ((((List.range k).map (· + 2)).map fun (n : Nat) => D.int n) ++ [.int ((k + 2 : Nat) : Int)]) := by rw [bitD, List.range_succ, List.map_append, List.map_append]; rfl
        rw [hq]; rfl
      · have hq : ((List.range (k + 1)).map thingT).map bitD = ((List.range k).map thingT).map bitD ++ [bitD (thingT k)] := by rw [List.range_succ, List.map_append, List.map_append]; rfl
        rw [hq]; rfl
    · rw [hf] at hft
      cases hft
end
theorem repL_ints {h : Heap} {S : List Addr} : ∀ {vs : List Value} {xs : List Int}, IntsAre vs xs → RepL h S vs (xs.map .int)
  | _, _, .nil => .nil
  | _, _, .cons _ _ r => .cons (.int _ _) (repL_ints r)
theorem fin2 : PySem.Challenge.rw_ny0205_02.Holds := hd (by
  intro w s₀ s₁ mg mb G Y fa o pm cd doc dV kV ho hd' hcd hD hmg hg args vals as hpre hlay hrd hwl hlo
  have KX : (KK w.params).In s₁.heap := kIn_of Y
  wrow_args hpre hlay hrd hwl hlo
  rename IntsAre _ _ => hI
  rename Heap.IsList _ _ _ => hL
  rename ¬ _ => hc
  have hfa : fa = 221 := by
    have h1 : mg "law" = some (.ref 221) := mg_of KX G.T.g rfl
    have h2 : mg "law" = some (.ref fa) := hmg
    rw [h1] at h2
    cases h2
    rfl
  subst hfa
  have ok : Ok ⟨Challenge.rw_ny0205_02.row.prog, w, s₁.heap, mg, mb, [], G.T.g, G.T.b, G.T.nolimit, G.T.builtins, G.T.nodigits, []⟩ [] s₁.heap :=
    ⟨fun _ _ e => e, fun _ z => (by cases z), fun _ z => (by cases z), fun _ z => (by cases z), .nil, fun _ z => (by cases z)⟩
  refine wpAny_mono ((law_walk (C := ⟨Challenge.rw_ny0205_02.row.prog, w, s₁.heap, mg, mb, [], G.T.g, G.T.b, G.T.nolimit, G.T.builtins, G.T.nodigits, []⟩) (A := callerA) (P := fun d _ => d = .bool true) KX ⟨rfl, by decide, by decide⟩ (by omega) fun _ => rfl).run s₁ [.ref _] [] ok
    (.cons (.list hL (by intro z; cases z) (repL_ints hI)) .nil) .nil _) ?_ fun _ _ x => x
  rintro v s' ⟨_, σ', rfl, r, n⟩
  cases r
  exact GoodW.toG ⟨.inl ⟨_, .bool true, [], rfl, fun _ => rfl, .bool _, by kernel_rfl, fun _ => ⟨.nil, fun _ z => (by cases z)⟩⟩, n.ok.base, n.os, n.gens.trans hg⟩)
end Mine
theorem PySem.Challenge.cw_ny0205_02_holds : PySem.Challenge.rw_ny0205_02.Holds :=
  Mine.fin2
