import PyProof.Rows.All
import Wide.All
import OpenK.AllK
import Wide.FinOn
import PySem.Challenge.RW_ny0205_03
open PySem PySem.W PyProof.Rows PySem.Calls
set_option Elab.async false
set_option maxRecDepth 100000
set_option maxHeartbeats 8000000
set_option exponentiation.threshold 2000
set_option compiler.extract_closed false
namespace Mine

inductive D where
  | none | bool (b : Bool) | int (i : Int) | str (s : Str) | bytes (b : Array UInt8)
  | list (ds : List D) | tuple (ds : List D) | range (a b c : Int) | raw (v : Value)

/-- objects that never turn: sequences outside the store, ranges -/
noncomputable def Frz (o : Obj) : Prop := (∃ vs n, o.data = .seq vs n) ∨ ((∃ fs, o.data = .fields fs) ∧ o.cls = .type "range")

mutual
inductive Rep (h : Heap) (S : List Addr) : Value → D → Prop
  | none : Rep h S .none .none
  | bool (b : Bool) : Rep h S (.bool b) (.bool b)
  | int (i : Int) (t : Tok) : Rep h S (.int i t) (.int i)
  | str (x : Str) (t : Tok) : Rep h S (.str x t) (.str x)
  | bytes (b : Array UInt8) (t : Tok) : Rep h S (.bytes b t) (.bytes b)
  | list {a : Addr} {vs : List Value} {ds : List D} : h.IsList a vs.toArray → a ∉ S → RepL h S vs ds → Rep h S (.ref a) (.list ds)
  | tuple {a : Addr} {vs : List Value} {ds : List D} : IsTup h a vs.toArray → a ∉ S → RepL h S vs ds → Rep h S (.ref a) (.tuple ds)
  | range {r : Addr} {a b c : Int} {t u w : Tok} : IsRange h r a b c t u w → r ∉ S → Rep h S (.ref r) (.range a b c)
  | raw (v : Value) : Rep h S v (.raw v)
inductive RepL (h : Heap) (S : List Addr) : List Value → List D → Prop
  | nil : RepL h S [] []
  | cons {v : Value} {vs : List Value} {d : D} {ds : List D} : Rep h S v d → RepL h S vs ds → RepL h S (v :: vs) (d :: ds)
end

noncomputable def Le (h : Heap) (S : List Addr) (h' : Heap) (S' : List Addr) : Prop :=
  ∀ a o, h.get? a = some o → a ∉ S → h'.get? a = some o ∧ a ∉ S'

theorem Le.refl {h : Heap} {S : List Addr} : Le h S h S := fun _ _ e n => ⟨e, n⟩
theorem Le.trans {h h' h'' : Heap} {S S' S'' : List Addr} (x : Le h S h' S') (y : Le h' S' h'' S'') : Le h S h'' S'' :=
  fun a o e n => y a o (x a o e n).1 (x a o e n).2

noncomputable def Seqs (h : Heap) (S : List Addr) (h' : Heap) (S' : List Addr) : Prop :=
  ∀ a o, h.get? a = some o → a ∉ S → Frz o → h'.get? a = some o ∧ a ∉ S'
mutual
theorem Rep.mono {h h' : Heap} {S S' : List Addr} (l : Seqs h S h' S') : ∀ {v : Value} {d : D}, Rep h S v d → Rep h' S' v d
  | _, _, .none => .none
  | _, _, .bool b => .bool b
  | _, _, .int i t => .int i t
  | _, _, .str x t => .str x t
  | _, _, .bytes b t => .bytes b t
  | _, _, .list ⟨o, ho, hc, n, hd⟩ ha r => .list ⟨o, (l _ _ ho ha (.inl ⟨_, _, hd⟩)).1, hc, n, hd⟩ (l _ _ ho ha (.inl ⟨_, _, hd⟩)).2 (RepL.mono l r)
  | _, _, .tuple ⟨o, ho, hc, n, hd⟩ ha r => .tuple ⟨o, (l _ _ ho ha (.inl ⟨_, _, hd⟩)).1, hc, n, hd⟩ (l _ _ ho ha (.inl ⟨_, _, hd⟩)).2 (RepL.mono l r)
  | _, _, .range ho ha => .range (l _ _ ho ha (.inr ⟨⟨_, rfl⟩, rfl⟩)).1 (l _ _ ho ha (.inr ⟨⟨_, rfl⟩, rfl⟩)).2
  | _, _, .raw v => .raw v
theorem RepL.mono {h h' : Heap} {S S' : List Addr} (l : Seqs h S h' S') : ∀ {vs : List Value} {ds : List D}, RepL h S vs ds → RepL h' S' vs ds
  | _, _, .nil => .nil
  | _, _, .cons x r => .cons (Rep.mono l x) (RepL.mono l r)
end

theorem RepL.length {h : Heap} {S : List Addr} {vs : List Value} {ds : List D} (r : RepL h S vs ds) : vs.length = ds.length := by
  induction vs generalizing ds with
  | nil => cases r; rfl
  | cons v vs ih => cases r with | cons _ r => rw [List.length_cons, List.length_cons, ih r]
theorem RepL.append {h : Heap} {S : List Addr} {vs ws : List Value} {ds es : List D} (r : RepL h S vs ds) (q : RepL h S ws es) : RepL h S (vs ++ ws) (ds ++ es) := by
  induction vs generalizing ds with
  | nil => cases r; exact q
  | cons v vs ih => cases r with | cons x r => exact .cons x (ih r)
theorem RepL.get {h : Heap} {S : List Addr} {vs : List Value} {ds : List D} (r : RepL h S vs ds) {k : Nat} {d : D} (hk : ds[k]? = some d) : ∃ v, vs[k]? = some v ∧ Rep h S v d := by
  induction vs generalizing ds k with
  | nil => cases r; simp at hk
  | cons v vs ih =>
    cases r with
    | cons x r =>
      cases k with
      | zero => simp at hk; subst hk; exact ⟨v, rfl, x⟩
      | succ k => exact ih r (by simpa using hk)
theorem RepL.take {h : Heap} {S : List Addr} {vs : List Value} {ds : List D} (k : Nat) (r : RepL h S vs ds) : RepL h S (vs.take k) (ds.take k) := by
  induction vs generalizing ds k with
  | nil => cases r; simpa using RepL.nil
  | cons v vs ih =>
    cases r with
    | cons x r => cases k with
      | zero => exact .nil
      | succ k => exact .cons x (ih k r)
theorem RepL.drop {h : Heap} {S : List Addr} {vs : List Value} {ds : List D} (k : Nat) (r : RepL h S vs ds) : RepL h S (vs.drop k) (ds.drop k) := by
  induction vs generalizing ds k with
  | nil => cases r; simpa using RepL.nil
  | cons v vs ih =>
    cases r with
    | cons x r => cases k with
      | zero => exact .cons x r
      | succ k => exact ih k r

abbrev Sto := List (Addr × List Value × List D)
abbrev Sto.S (σ : Sto) : List Addr := σ.map (·.1)

structure Cx where
  prog : Program
  w : World
  h₀ : Heap
  mg : Str → Option Value
  mb : Str → Option Value
  pins : List (Addr × Obj)
  g : h₀.Ns mainGlobals mg
  b : h₀.Ns builtinsNs mb
  lim : h₀.NoLimit
  boot : ∀ x : Str, x ≠ "__name__" → mb x = bootBuiltins x
  dig : ∃ mc, h₀.Ns cStatics mc ∧ mc "sys.int_max_str_digits" = none
  Z : List Addr

abbrev Cx.M (C : Cx) : Model := model C.prog C.w
/-- the addresses that no datum leans on -/
noncomputable def Cx.V (C : Cx) (σ : Sto) : List Addr := σ.S ++ C.Z
theorem Le.v {C : Cx} {h h' : Heap} {σ σ' : Sto} (l : Le h σ.S h' σ'.S) : Seqs h (C.V σ) h' (C.V σ') := fun a o e n _ => by
  simp only [Cx.V, List.mem_append, not_or] at n ⊢
  exact ⟨(l a o e n.1).1, (l a o e n.1).2, n.2⟩

noncomputable def Cx.withZ (C : Cx) (Z : List Addr) : Cx := { C with Z := Z }

noncomputable def Cx.Free (C : Cx) (a : Addr) : Prop := C.h₀.get? a = none ∧ (∀ p ∈ C.pins, p.1 ≠ a) ∧ a ∉ C.Z

structure Ok (C : Cx) (σ : Sto) (h : Heap) : Prop where
  base : ∀ a o, C.h₀.get? a = some o → h.get? a = some o
  pin : ∀ p ∈ C.pins, h.get? p.1 = some p.2
  off : ∀ p ∈ σ, C.Free p.1
  at_ : ∀ p ∈ σ, ∃ n, h.get? p.1 = some (listOf p.2.1.toArray n) ∧ RepL h (C.V σ) p.2.1 p.2.2
  nd : σ.S.Nodup
  zs : ∀ a ∈ C.Z, ∃ o, h.get? a = some o

structure Nx (C : Cx) (σ : Sto) (s : Shared) (σ' : Sto) (s' : Shared) : Prop where
  ok : Ok C σ' s'.heap
  le : Le s.heap σ.S s'.heap σ'.S
  gens : s'.gens = s.gens
  os : s'.os = s.os

theorem Nx.refl {C : Cx} {σ : Sto} {s : Shared} (o : Ok C σ s.heap) : Nx C σ s σ s := ⟨o, .refl, rfl, rfl⟩
theorem Nx.trans {C : Cx} {σ σ' σ'' : Sto} {s s' s'' : Shared} (x : Nx C σ s σ' s') (y : Nx C σ' s' σ'' s'') : Nx C σ s σ'' s'' :=
  ⟨y.ok, x.le.trans y.le, y.gens.trans x.gens, y.os.trans x.os⟩

/-- the heap is kept whole -/
theorem Ok.keeps {C : Cx} {σ : Sto} {h h' : Heap} (o : Ok C σ h) (k : ∀ a o, h.get? a = some o → h'.get? a = some o) : Ok C σ h' :=
  ⟨fun a x e => k a x (o.base a x e), fun p hp => k _ _ (o.pin p hp), o.off, fun p hp => by
    obtain ⟨n, e, r⟩ := o.at_ p hp
    exact ⟨n, k _ _ e, r.mono fun a x e n _ => ⟨k _ _ e, n⟩⟩, o.nd, fun a ha => (o.zs a ha).imp fun x e => k _ _ e⟩
theorem Nx.of_keeps {C : Cx} {σ : Sto} {s s' : Shared} (o : Ok C σ s.heap) (k : ∀ a o, s.heap.get? a = some o → s'.heap.get? a = some o) (hg : s'.gens = s.gens := by rfl) (hos : s'.os = s.os := by rfl) : Nx C σ s σ s' :=
  ⟨o.keeps k, fun a x e n => ⟨k a x e, n⟩, hg, hos⟩

abbrev Rho := List (Str × D)

noncomputable def Has (h : Heap) (S : List Addr) (env : Env) (ml : Str → Option Value) (x : Str) (d : D) : Prop :=
  ∃ v, Rep h S v d ∧ ((env.kindOf x = some .local ∧ ml x = some v) ∨
    ((env.kindOf x = some .cell ∨ env.kindOf x = some .free) ∧ ∃ c, env.cells.lookup x = some c ∧ h.IsCell c (some v)))

structure Fm (C : Cx) (σ : Sto) (h : Heap) (env : Env) (wr : Bool) (ρ : Rho) : Prop where
  has : ∃ ml, h.Ns env.locals ml ∧ ∀ x d, ρ.lookup x = some d → Has h (C.V σ) env ml x d
  kind : env.scope.kind = .function
  glob : env.globals = mainGlobals
  blt : env.builtins = builtinsNs
  offL : C.Free env.locals ∧ env.locals ∉ σ.S
  cells : ∀ x c, env.cells.lookup x = some c → (∃ v, h.IsCell c v) ∧ c ≠ env.locals ∧ c ∉ σ.S ∧ (wr = true → C.Free c)
  apart : ∀ x y c, env.cells.lookup x = some c → env.cells.lookup y = some c → x = y

theorem Has.mono {C : Cx} {h h' : Heap} {σ σ' : Sto} {env : Env} {ml : Str → Option Value} {x : Str} {d : D} (y : Has h (C.V σ) env ml x d) (l : Le h σ.S h' σ'.S)
    (hc : ∀ x c, env.cells.lookup x = some c → c ∉ σ.S) : Has h' (C.V σ') env ml x d := by
  obtain ⟨v, r, k⟩ := y
  refine ⟨v, r.mono l.v, k.imp id ?_⟩
  rintro ⟨k, c, hl, o, ho, hd⟩
  exact ⟨k, c, hl, o, (l _ _ ho (hc _ _ hl)).1, hd⟩

theorem Fm.le {C : Cx} {σ σ' : Sto} {h h' : Heap} {env : Env} {wr : Bool} {ρ : Rho} (f : Fm C σ h env wr ρ) (l : Le h σ.S h' σ'.S) : Fm C σ' h' env wr ρ := by
  obtain ⟨ml, hn, hh⟩ := f.has
  have hL : ∀ m, h.Ns env.locals m → h'.Ns env.locals m ∧ env.locals ∉ σ'.S := fun m ⟨o, es, ep, ho, r⟩ =>
    ⟨⟨o, es, ep, (l _ _ ho f.offL.2).1, r⟩, (l _ _ ho f.offL.2).2⟩
  refine ⟨⟨ml, (hL _ hn).1, fun x d e => (hh x d e).mono l fun x c hc => (f.cells x c hc).2.2.1⟩, f.kind, f.glob, f.blt, ⟨f.offL.1, (hL _ hn).2⟩, fun x c hc => ?_, f.apart⟩
  obtain ⟨⟨v, o, ho, hd⟩, n1, n2, n3⟩ := f.cells x c hc
  exact ⟨⟨v, o, (l _ _ ho n2).1, hd⟩, n1, (l _ _ ho n2).2, n3⟩
theorem Fm.next {C : Cx} {σ σ' : Sto} {s s' : Shared} {env : Env} {wr : Bool} {ρ : Rho} (f : Fm C σ s.heap env wr ρ) (x : Nx C σ s σ' s') : Fm C σ' s'.heap env wr ρ := f.le x.le
theorem Rep.next {C : Cx} {σ σ' : Sto} {s s' : Shared} {v : Value} {d : D} (r : Rep s.heap (C.V σ) v d) (x : Nx C σ s σ' s') : Rep s'.heap (C.V σ') v d := r.mono x.le.v
theorem RepL.next {C : Cx} {σ σ' : Sto} {s s' : Shared} {v : List Value} {d : List D} (r : RepL s.heap (C.V σ) v d) (x : Nx C σ s σ' s') : RepL s'.heap (C.V σ') v d := r.mono x.le.v

/-- what a tree that hands on a value gives: the post-condition in raw terms -/
abbrev Gets (C : Cx) (σ : Sto) (s : Shared) (P : D → Sto → Prop) : Value → Shared → Prop :=
  fun v s' => ∃ d σ', P d σ' ∧ Rep s'.heap (C.V σ') v d ∧ Nx C σ s σ' s'

theorem Gets.next {C : Cx} {σ σ₁ : Sto} {s s₁ : Shared} {P : D → Sto → Prop} (x : Nx C σ s σ₁ s₁) {v : Value} {s' : Shared} (g : Gets C σ₁ s₁ P v s') : Gets C σ s P v s' := by
  obtain ⟨d, σ', p, r, n⟩ := g; exact ⟨d, σ', p, r, x.trans n⟩

structure Rm (n : Nat) (A : Around) : Prop where
  handled : A.handled = none
  depth : A.depth + n < 600
  units : A.units + 12 * n < 8000
theorem Rm.le {n m : Nat} {A : Around} (r : Rm n A) (h : m ≤ n) : Rm m A := ⟨r.1, by have := r.2; omega, by have := r.3; omega⟩

/-- an expression: what holds of its datum and of the store behind it -/
structure Ev (C : Cx) (A : Around) (env : Env) (wr : Bool) (ρ : Rho) (σ : Sto) (e : Expr) (P : D → Sto → Prop) : Prop where
  run : ∀ s, Ok C σ s.heap → Fm C σ s.heap env wr ρ → ∀ E, wpAny C.M A (eval e env) (Gets C σ s P) E s

/-- a condition -/
structure Bv (C : Cx) (A : Around) (env : Env) (wr : Bool) (ρ : Rho) (σ : Sto) (e : Expr) (P : Bool → Sto → Prop) : Prop where
  run : ∀ s, Ok C σ s.heap → Fm C σ s.heap env wr ρ → ∀ E, wpAny C.M A (isTrue e env (eval e env)) (fun b s' => ∃ σ', P b σ' ∧ Nx C σ s σ' s') E s

inductive Fl where
  | nx | brk | cont | ret (d : D)
inductive FlRep (h : Heap) (S : List Addr) : Flow → Fl → Prop
  | nx : FlRep h S .next .nx
  | brk : FlRep h S .brk .brk
  | cont : FlRep h S .cont .cont
  | ret {v : Value} {d : D} : Rep h S v d → FlRep h S (.ret v) (.ret d)

noncomputable def Own (env : Env) (a : Addr) : Prop := a = env.locals ∨ ∃ x, env.cells.lookup x = some a

/-- what a frame's statements may turn: its names, and its cells where they are its own -/
noncomputable def OwnW (env : Env) (wr : Bool) (a : Addr) : Prop := a = env.locals ∨ (wr = true ∧ ∃ x, env.cells.lookup x = some a)
theorem OwnW.own {env : Env} {wr : Bool} {a : Addr} (h : OwnW env wr a) : Own env a := h.imp id fun h => h.2

/-- behind statements: the frame's own names may have turned -/
structure Nz (C : Cx) (env : Env) (wr : Bool) (σ : Sto) (s : Shared) (σ' : Sto) (s' : Shared) : Prop where
  ok : Ok C σ' s'.heap
  le : ∀ a o, s.heap.get? a = some o → a ∉ σ.S → ¬ OwnW env wr a → s'.heap.get? a = some o ∧ a ∉ σ'.S
  own : ∀ a, Own env a → a ∉ σ'.S
  gens : s'.gens = s.gens
  os : s'.os = s.os

theorem Nz.trans {C : Cx} {env : Env} {wr : Bool} {σ σ' σ'' : Sto} {s s' s'' : Shared} (x : Nz C env wr σ s σ' s') (y : Nz C env wr σ' s' σ'' s'') : Nz C env wr σ s σ'' s'' :=
  ⟨y.ok, fun a o e n w => y.le a o (x.le a o e n w).1 (x.le a o e n w).2 w, y.own, y.gens.trans x.gens, y.os.trans x.os⟩
theorem Nx.nz {C : Cx} {env : Env} {σ σ' : Sto} {s s' : Shared} {wr : Bool} {ρ : Rho} (x : Nx C σ s σ' s') (f : Fm C σ s.heap env wr ρ) : Nz C env wr σ s σ' s' := by
  have f' := f.next x
  exact ⟨x.ok, fun a o e n _ => x.le a o e n, fun a => by
    rintro (rfl | ⟨y, hc⟩)
    · exact f'.offL.2
    · exact (f'.cells y a hc).2.2.1, x.gens, x.os⟩

abbrev Does (C : Cx) (env : Env) (wr : Bool) (σ : Sto) (s : Shared) (P : Fl → Rho → Sto → Prop) : Flow → Shared → Prop :=
  fun f s' => ∃ fl ρ' σ', P fl ρ' σ' ∧ FlRep s'.heap (C.V σ') f fl ∧ Nz C env wr σ s σ' s' ∧ Fm C σ' s'.heap env wr ρ'

theorem Does.next {C : Cx} {env : Env} {wr : Bool} {σ σ₁ : Sto} {s s₁ : Shared} {P : Fl → Rho → Sto → Prop} (x : Nz C env wr σ s σ₁ s₁) {f : Flow} {s' : Shared} (g : Does C env wr σ₁ s₁ P f s') : Does C env wr σ s P f s' := by
  obtain ⟨fl, ρ', σ', p, r, n, m⟩ := g; exact ⟨fl, ρ', σ', p, r, x.trans n, m⟩

/-- one statement -/
structure Ex1 (C : Cx) (A : Around) (env : Env) (wr : Bool) (ρ : Rho) (σ : Sto) (st : Stmt) (P : Fl → Rho → Sto → Prop) : Prop where
  run : ∀ s, Ok C σ s.heap → Fm C σ s.heap env wr ρ → ∀ E, wpAny C.M A (exec st env) (Does C env wr σ s P) E s
/-- statements -/
structure Ex (C : Cx) (A : Around) (env : Env) (wr : Bool) (ρ : Rho) (σ : Sto) (ss : List Stmt) (P : Fl → Rho → Sto → Prop) : Prop where
  run : ∀ s, Ok C σ s.heap → Fm C σ s.heap env wr ρ → ∀ E, wpAny C.M A (execs ss env) (Does C env wr σ s P) E s

section
variable {C : Cx} {A : Around} {env : Env} {wr : Bool} {ρ : Rho} {σ : Sto}

theorem Ev.mono {e : Expr} {P P' : D → Sto → Prop} (h : Ev C A env wr ρ σ e P) (i : ∀ d σ', P d σ' → P' d σ') : Ev C A env wr ρ σ e P' :=
  ⟨fun s o f E => wpAny_mono (h.run s o f E) (fun _ _ ⟨d, σ', p, q⟩ => ⟨d, σ', i _ _ p, q⟩) fun _ _ x => x⟩
theorem Bv.mono {e : Expr} {P P' : Bool → Sto → Prop} (h : Bv C A env wr ρ σ e P) (i : ∀ d σ', P d σ' → P' d σ') : Bv C A env wr ρ σ e P' :=
  ⟨fun s o f E => wpAny_mono (h.run s o f E) (fun _ _ ⟨σ', p, q⟩ => ⟨σ', i _ _ p, q⟩) fun _ _ x => x⟩
theorem Ex1.mono {st : Stmt} {P P' : Fl → Rho → Sto → Prop} (h : Ex1 C A env wr ρ σ st P) (i : ∀ f r σ', P f r σ' → P' f r σ') : Ex1 C A env wr ρ σ st P' :=
  ⟨fun s o f E => wpAny_mono (h.run s o f E) (fun _ _ ⟨d, r, σ', p, q⟩ => ⟨d, r, σ', i _ _ _ p, q⟩) fun _ _ x => x⟩
theorem Ex.mono {st : List Stmt} {P P' : Fl → Rho → Sto → Prop} (h : Ex C A env wr ρ σ st P) (i : ∀ f r σ', P f r σ' → P' f r σ') : Ex C A env wr ρ σ st P' :=
  ⟨fun s o f E => wpAny_mono (h.run s o f E) (fun _ _ ⟨d, r, σ', p, q⟩ => ⟨d, r, σ', i _ _ _ p, q⟩) fun _ _ x => x⟩

theorem Nz.refl {s : Shared} (o : Ok C σ s.heap) (f : Fm C σ s.heap env wr ρ) : Nz C env wr σ s σ s := (Nx.refl o).nz f

theorem ex_nil {P : Fl → Rho → Sto → Prop} (h : P .nx ρ σ) : Ex C A env wr ρ σ [] P :=
  ⟨fun _ o f _ => wpAny_execs_nil ⟨_, _, _, h, .nx, .refl o f, f⟩⟩

theorem ex_cons {st : Stmt} {rest : List Stmt} {P : Fl → Rho → Sto → Prop}
    (h : Ex1 C A env wr ρ σ st (fun fl ρ' σ' => match fl with | .nx => Ex C A env wr ρ' σ' rest P | f => P f ρ' σ')) : Ex C A env wr ρ σ (st :: rest) P := by
  constructor
  intro s o f E
  refine wpAny_execs_cons (wpAny_mono (h.run s o f E) ?_ fun _ _ x => x)
  rintro fl s' ⟨l, ρ', σ', p, r, n, m⟩
  cases r with
  | nx => exact wpAny_mono (p.run s' n.ok m E) (fun _ _ g => Does.next n g) fun _ _ x => x
  | brk => exact ⟨_, _, _, p, .brk, n, m⟩
  | cont => exact ⟨_, _, _, p, .cont, n, m⟩
  | ret q => exact ⟨_, _, _, p, .ret q, n, m⟩
end
end Mine
namespace Mine

noncomputable def setR : Rho → Str → D → Rho
  | [], x, d => [(x, d)]
  | (y, e) :: r, x, d => if y == x then (x, d) :: r else (y, e) :: setR r x d
theorem setR_lookup {d : D} {x : Str} : ∀ (ρ : Rho) (y : Str), (setR ρ x d).lookup y = if y == x then some d else ρ.lookup y
  | [], y => by
    simp only [setR, List.lookup]
    split <;> simp_all
  | (z, e) :: r, y => by
    simp only [setR]
    split
    · rename_i hz
      have hz' := eq_of_beq hz
      subst hz'
      simp only [List.lookup]
      split <;> simp_all
    · rename_i hz
      simp only [List.lookup]
      split
      · rename_i h1
        have := eq_of_beq h1
        subst this
        simp [hz]
      · exact setR_lookup r y

noncomputable def Sub (ρ' ρ : Rho) : Prop := ∀ x d, ρ'.lookup x = some d → ρ.lookup x = some d
theorem Sub.refl {ρ : Rho} : Sub ρ ρ := fun _ _ e => e
noncomputable def SubL : Rho → Rho → Prop
  | [], _ => True
  | (x, d) :: r, ρ => ρ.lookup x = some d ∧ SubL r ρ
theorem SubL.sub : ∀ {ρ' ρ : Rho}, SubL ρ' ρ → Sub ρ' ρ
  | [], _, _ => fun _ _ e => by simp [List.lookup] at e
  | (y, e) :: r, ρ, h => fun x d q => by
    simp only [List.lookup] at q
    split at q
    · rename_i hxy
      have := eq_of_beq hxy; subst this
      cases q; exact h.1
    · exact SubL.sub h.2 x d q

section
variable {C : Cx} {A : Around} {env : Env} {wr : Bool} {ρ : Rho} {σ : Sto} {E : Value → Shared → Prop} {s : Shared}

theorem Fm.sub {h : Heap} {ρ' : Rho} (f : Fm C σ h env wr ρ) (q : Sub ρ' ρ) : Fm C σ h env wr ρ' := by
  obtain ⟨ml, hn, hh⟩ := f.has
  exact ⟨⟨ml, hn, fun x d e => hh x d (q x d e)⟩, f.kind, f.glob, f.blt, f.offL, f.cells, f.apart⟩
theorem Ex.sub {ss : List Stmt} {ρ' : Rho} {P : Fl → Rho → Sto → Prop} (q : Sub ρ' ρ) (h : Ex C A env wr ρ' σ ss P) : Ex C A env wr ρ σ ss P := ⟨fun s o f E => h.run s o (f.sub q) E⟩

/-- a name's place is written anew: what the frame's own change keeps -/
theorem store_keep {a : Addr} {h h' : Heap} (o : Ok C σ h) (ha : C.Free a) (hS : a ∉ σ.S) (hb : Heap.SameBut a h h') (hq : ∀ x, h.get? a = some x → ¬ Frz x) : Ok C σ h' ∧ Seqs h (C.V σ) h' (C.V σ) := by
  have sq : Seqs h (C.V σ) h' (C.V σ) := fun b x e n q => by
    have hne : b ≠ a := fun z => by subst z; exact hq x e q
    exact ⟨(hb.2 b hne).trans e, n⟩
  refine ⟨⟨fun b x e => ?_, fun p hp => ?_, o.off, fun p hp => ?_, o.nd, fun b hb' => (o.zs b hb').imp fun x e => (hb.2 b fun z => ha.2.2 (z ▸ hb')).trans e⟩, sq⟩
  · have hne : b ≠ a := fun z => by subst z; rw [ha.1] at e; cases e
    exact (hb.2 b hne).trans (o.base b x e)
  · exact (hb.2 _ (ha.2.1 p hp)).trans (o.pin p hp)
  · obtain ⟨n, e, r⟩ := o.at_ p hp
    have hne : p.1 ≠ a := fun z => hS (z ▸ List.mem_map_of_mem hp)
    exact ⟨n, (hb.2 _ hne).trans e, r.mono sq⟩

noncomputable def CanSt (env : Env) (wr : Bool) (x : Str) : Prop := env.kindOf x = some .local ∨ (wr = true ∧ env.kindOf x = some .cell ∧ (env.cells.lookup x).isSome = true)

theorem wp_store {x : Str} {v : Value} {d : D} (o : Ok C σ s.heap) (f : Fm C σ s.heap env wr ρ) (r : Rep s.heap (C.V σ) v d) (hx : CanSt env wr x) {Q : Unit → Shared → Prop}
    (h : ∀ s', Nz C env wr σ s σ s' → Fm C σ s'.heap env wr (setR ρ x d) → Q () s') : wpAny C.M A (storeName env x v) Q E s := by
  obtain ⟨ml, hn, hh⟩ := f.has
  rcases hx with hx | ⟨hw, hx, hc⟩
  · refine wpAny_storeName_local hx hn (fun h' hn' hb => ?_) (by rw [f.kind]; rfl)
    have hq : ∀ x, s.heap.get? env.locals = some x → ¬ Frz x := fun y e z => by
      obtain ⟨oL, es, ep, ho, hd, _⟩ := hn
      rw [ho] at e; cases e
      rcases z with ⟨_, _, z⟩ | ⟨⟨_, z⟩, _⟩ <;> rw [hd] at z <;> cases z
    obtain ⟨ok', sq⟩ := store_keep o f.offL.1 f.offL.2 hb hq
    have hcells : ∀ y c, env.cells.lookup y = some c → (∃ v, h'.IsCell c v) ∧ c ≠ env.locals ∧ c ∉ σ.S ∧ (wr = true → C.Free c) := fun y c hc => by
      obtain ⟨⟨v, hv⟩, n⟩ := f.cells y c hc
      exact ⟨⟨v, hv.sameBut hb n.1⟩, n⟩
    refine h _ ⟨ok', fun a x e n w => ⟨(hb.2 a fun z => w (.inl z)).trans e, n⟩, fun a => ?_, rfl, rfl⟩
      ⟨⟨_, hn', fun y e q => ?_⟩, f.kind, f.glob, f.blt, f.offL, hcells, f.apart⟩
    · rintro (rfl | ⟨y, hc⟩)
      · exact f.offL.2
      · exact (f.cells y a hc).2.2.1
    · rw [setR_lookup] at q
      split at q
      · rename_i hxy
        have := eq_of_beq hxy; subst this
        cases q
        exact ⟨v, r.mono sq, .inl ⟨hx, by simp⟩⟩
      · rename_i hxy
        obtain ⟨u, ru, k⟩ := hh y e q
        refine ⟨u, ru.mono sq, k.imp (fun ⟨k1, k2⟩ => ⟨k1, ?_⟩) fun ⟨k1, c, k2, k3⟩ => ⟨k1, c, k2, k3.sameBut hb (f.cells y c k2).2.1⟩⟩
        show (if y = x then some v else ml y) = some u
        rw [if_neg (fun z => hxy (by rw [z]; exact beq_self_eq_true x))]; exact k2
  · obtain ⟨c, hc⟩ := Option.isSome_iff_exists.mp hc
    obtain ⟨⟨v₀, hv₀⟩, n1, n2, n3⟩ := f.cells x c hc
    refine wpAny_storeName_cell f.kind hx hc hv₀ fun h' hv' hb => ?_
    have hq : ∀ x, s.heap.get? c = some x → ¬ Frz x := fun y e z => by
      obtain ⟨oc, ho, hd⟩ := hv₀
      rw [ho] at e; cases e
      rcases z with ⟨_, _, z⟩ | ⟨⟨_, z⟩, _⟩ <;> rw [hd] at z <;> cases z
    obtain ⟨ok', sq⟩ := store_keep o (n3 hw) n2 hb hq
    have hcells : ∀ y c, env.cells.lookup y = some c → (∃ v, h'.IsCell c v) ∧ c ≠ env.locals ∧ c ∉ σ.S ∧ (wr = true → C.Free c) := fun y c' hc' => by
      obtain ⟨⟨u, hu⟩, n⟩ := f.cells y c' hc'
      by_cases hcc : c' = c
      · subst hcc; exact ⟨⟨_, hv'⟩, n⟩
      · exact ⟨⟨u, hu.sameBut hb hcc⟩, n⟩
    refine h _ ⟨ok', fun a x' e n w => ⟨(hb.2 a fun z => w (.inr ⟨hw, x, z ▸ hc⟩)).trans e, n⟩, fun a => ?_, rfl, rfl⟩
      ⟨⟨ml, hn.sameBut hb (Ne.symm n1), fun y e q => ?_⟩, f.kind, f.glob, f.blt, f.offL, hcells, f.apart⟩
    · rintro (rfl | ⟨y, hc⟩)
      · exact f.offL.2
      · exact (f.cells y a hc).2.2.1
    · rw [setR_lookup] at q
      split at q
      · rename_i hxy
        have := eq_of_beq hxy; subst this
        cases q
        exact ⟨v, r.mono sq, .inr ⟨.inl hx, c, hc, hv'⟩⟩
      · rename_i hxy
        obtain ⟨u, ru, k⟩ := hh y e q
        refine ⟨u, ru.mono sq, k.imp id fun ⟨k1, c', k2, k3⟩ => ⟨k1, c', k2, k3.sameBut hb fun z => ?_⟩⟩
        subst z
        exact hxy (by simp [f.apart y x _ k2 hc])

theorem ev_var {x : Str} {pos : Pos} {d : D} {P : D → Sto → Prop} (hx : ρ.lookup x = some d) (h : P d σ) (hd : (x == ("__debug__" : Str)) = false := by decide) (hc : (x == ("__classdict__" : Str)) = false := by decide) :
    Ev C A env wr ρ σ (.Name x pos) P := by
  constructor
  intro s o f E
  obtain ⟨ml, hn, hh⟩ := f.has
  obtain ⟨v, r, ⟨k, e⟩ | ⟨k | k, c, hl, hv⟩⟩ := hh x d hx
  · exact wpAny_Name (wpAny_loadName_local f.kind k hn e ⟨d, σ, h, r, .refl o⟩) hd
  · exact wpAny_Name (wpAny_loadName_cell f.kind k hl hv ⟨d, σ, h, r, .refl o⟩) hd
  · exact wpAny_Name (wpAny_loadName_free f.kind k hl hv ⟨d, σ, h, r, .refl o⟩ hc) hd
theorem Ns.keep {h h' : Heap} {a : Addr} {m : Str → Option Value} (n : h.Ns a m) (k : ∀ a o, h.get? a = some o → h'.get? a = some o) : h'.Ns a m :=
  let ⟨o, es, ep, ho, r⟩ := n; ⟨o, es, ep, k _ _ ho, r⟩
theorem ev_global {x : Str} {pos : Pos} {v : Value} {P : D → Sto → Prop} (hx : C.mg x = some v) (h : P (.raw v) σ) (hk : env.kindOf x = some .globalImplicit := by rfl) (hd : (x == ("__debug__" : Str)) = false := by decide) :
    Ev C A env wr ρ σ (.Name x pos) P := by
  constructor
  intro s o f E
  exact Name_function_global f.kind hk (loadGlobal_global (by rw [f.glob]; exact Ns.keep C.g o.base) hx ⟨_, _, h, .raw _, .refl o⟩) hd
theorem ev_builtin {x : Str} {pos : Pos} {v : Value} {P : D → Sto → Prop} (hx : C.mg x = none) (hv : bootBuiltins x = some v) (h : P (.raw v) σ) (hk : env.kindOf x = some .globalImplicit := by rfl) (hd : (x == ("__debug__" : Str)) = false := by decide)
    (hn : x ≠ "__name__" := by decide) : Ev C A env wr ρ σ (.Name x pos) P := by
  constructor
  intro s o f E
  exact Name_function_global f.kind hk (loadGlobal_builtin (by rw [f.glob]; exact Ns.keep C.g o.base) hx (by rw [f.blt]; exact Ns.keep C.b o.base) ((C.boot x hn).trans hv) ⟨_, _, h, .raw _, .refl o⟩) hd

theorem nx_toks (o : Ok C σ s.heap) (n : Nat) : Nx C σ s σ { s with toks := n } := ⟨o, .refl, rfl, rfl⟩

theorem ev_int {i : Int} {k : Nat} {pos : Pos} {P : D → Sto → Prop} (h : P (.int i) σ) : Ev C A env wr ρ σ (.Constant (.int i) k pos) P := by
  constructor; intro s o f E; exact wpAny_Constant_int ⟨_, _, h, .int _ _, nx_toks o _⟩
theorem ev_str {x : Str} {k : Nat} {pos : Pos} {P : D → Sto → Prop} (h : P (.str x) σ) : Ev C A env wr ρ σ (.Constant (.str x) k pos) P := by
  constructor; intro s o f E; exact Constant_str ⟨_, _, h, .str _ _, nx_toks o _⟩
theorem ev_none {k : Nat} {pos : Pos} {P : D → Sto → Prop} (h : P .none σ) : Ev C A env wr ρ σ (.Constant .none k pos) P := by
  constructor; intro s o f E; exact wpAny_Constant_none ⟨_, _, h, .none, .refl o⟩
theorem ev_bool {b : Bool} {k : Nat} {pos : Pos} {P : D → Sto → Prop} (h : P (.bool b) σ) : Ev C A env wr ρ σ (.Constant (.bool b) k pos) P := by
  constructor; intro s o f E; exact wpAny_Constant_bool ⟨_, _, h, .bool _, .refl o⟩

/-- an operation upon two data -/
structure Op2 (C : Cx) (A : Around) (t : Value → Value → Sem Value) (a b : D) (σ : Sto) (P : D → Sto → Prop) : Prop where
  run : ∀ s va vb, Ok C σ s.heap → Rep s.heap (C.V σ) va a → Rep s.heap (C.V σ) vb b → ∀ E, wpAny C.M A (t va vb) (Gets C σ s P) E s
structure Op1 (C : Cx) (A : Around) (t : Value → Sem Value) (a : D) (σ : Sto) (P : D → Sto → Prop) : Prop where
  run : ∀ s va, Ok C σ s.heap → Rep s.heap (C.V σ) va a → ∀ E, wpAny C.M A (t va) (Gets C σ s P) E s
/-- the truth of a datum -/
structure Tru (C : Cx) (A : Around) (a : D) (σ : Sto) (P : Bool → Sto → Prop) : Prop where
  run : ∀ s va, Ok C σ s.heap → Rep s.heap (C.V σ) va a → ∀ E, wpAny C.M A (truthy va) (fun b s' => ∃ σ', P b σ' ∧ Nx C σ s σ' s') E s

theorem ev_binop {l r : Expr} {op : Operator} {pos : Pos} {P : D → Sto → Prop}
    (h : Ev C A env wr ρ σ l fun a σ₁ => Ev C A env wr ρ σ₁ r fun b σ₂ => Op2 C A (binaryOp op) a b σ₂ P) : Ev C A env wr ρ σ (.BinOp l op r pos) P := by
  constructor
  intro s o f E
  refine wpAny_BinOp (wpAny_mono (h.run s o f E) ?_ fun _ _ x => x)
  rintro va s₁ ⟨a, σ₁, h₁, ra, n₁⟩
  refine wpAny_mono (h₁.run s₁ n₁.ok (f.next n₁) E) ?_ fun _ _ x => x
  rintro vb s₂ ⟨b, σ₂, h₂, rb, n₂⟩
  exact wpAny_mono (h₂.run s₂ va vb n₂.ok (ra.next n₂) rb E) (fun _ _ g => Gets.next (n₁.trans n₂) g) fun _ _ x => x
theorem ev_compare {l r : Expr} {op : CmpOp} {pos : Pos} {P : D → Sto → Prop}
    (h : Ev C A env wr ρ σ l fun a σ₁ => Ev C A env wr ρ σ₁ r fun b σ₂ => Op2 C A (compareOp op) a b σ₂ P) (hm : behindInMarks op r = false := by with_unfolding_all rfl) : Ev C A env wr ρ σ (.Compare l [op] [r] pos) P := by
  constructor
  intro s o f E
  refine wpAny_Compare1 (wpAny_mono (h.run s o f E) ?_ fun _ _ x => x) hm
  rintro va s₁ ⟨a, σ₁, h₁, ra, n₁⟩
  refine wpAny_mono (h₁.run s₁ n₁.ok (f.next n₁) E) ?_ fun _ _ x => x
  rintro vb s₂ ⟨b, σ₂, h₂, rb, n₂⟩
  exact wpAny_mono (h₂.run s₂ va vb n₂.ok (ra.next n₂) rb E) (fun _ _ g => Gets.next (n₁.trans n₂) g) fun _ _ x => x
theorem bv_compare {l r : Expr} {op : CmpOp} {pos : Pos} {P : Bool → Sto → Prop}
    (h : Ev C A env wr ρ σ l fun a σ₁ => Ev C A env wr ρ σ₁ r fun b σ₂ => Op2 C A (compareOp op) a b σ₂ fun c σ₃ => ∃ x, c = .bool x ∧ P x σ₃) (hm : behindInMarks op r = false := by with_unfolding_all rfl) :
    Bv C A env wr ρ σ (.Compare l [op] [r] pos) P := by
  constructor
  intro s o f E
  refine wpAny_isTrue_Compare1 (wpAny_mono (h.run s o f E) ?_ fun _ _ x => x) hm
  rintro va s₁ ⟨a, σ₁, h₁, ra, n₁⟩
  refine wpAny_mono (h₁.run s₁ n₁.ok (f.next n₁) E) ?_ fun _ _ x => x
  rintro vb s₂ ⟨b, σ₂, h₂, rb, n₂⟩
  refine wpAny_mono (h₂.run s₂ va vb n₂.ok (ra.next n₂) rb E) ?_ fun _ _ x => x
  rintro vc s₃ ⟨c, σ₃, ⟨x, rfl, p⟩, rc, n₃⟩
  cases rc
  exact wpAny_truthy_bool ⟨σ₃, p, (n₁.trans n₂).trans n₃⟩
theorem bv_value {e : Expr} {P : Bool → Sto → Prop} (h : Ev C A env wr ρ σ e fun a σ₁ => Tru C A a σ₁ P)
    (he : isTrue e env (eval e env) = (do let v ← eval e env; standAt e.pos; holding [v] (truthy v)) := by rfl) : Bv C A env wr ρ σ e P := by
  constructor
  intro s o f E
  refine wpAny_isTrue_value (wpAny_mono (h.run s o f E) ?_ fun _ _ x => x) he
  rintro va s₁ ⟨a, σ₁, h₁, ra, n₁⟩
  refine wpAny_mono (h₁.run s₁ va n₁.ok ra E) ?_ fun _ _ x => x
  rintro b s₂ ⟨σ₂, p, n₂⟩
  exact ⟨σ₂, p, n₁.trans n₂⟩
theorem bv_or2 {l r : Expr} {pos : Pos} {P : Bool → Sto → Prop} (h : Bv C A env wr ρ σ l fun b σ₁ => if b then P true σ₁ else Bv C A env wr ρ σ₁ r P) : Bv C A env wr ρ σ (.BoolOp .Or [l, r] pos) P := by
  constructor
  intro s o f E
  refine wpAny_isTrue_BoolOp ?_
  simp only [allTrue]
  refine wpAny_bind (wpAny_mono (h.run s o f E) ?_ fun _ _ x => x)
  rintro b s₁ ⟨σ₁, p, n₁⟩
  cases b with
  | true => exact wpAny_pure ⟨σ₁, by simpa using p, n₁⟩
  | false =>
    simp only [Bool.false_eq_true, if_false] at p
    refine wpAny_bind (wpAny_mono (p.run s₁ n₁.ok (f.next n₁) E) ?_ fun _ _ x => x)
    rintro b s₂ ⟨σ₂, p, n₂⟩
    cases b <;> exact wpAny_pure ⟨σ₂, p, n₁.trans n₂⟩
theorem ev_ifexp {t b e : Expr} {pos : Pos} {P : D → Sto → Prop} (h : Bv C A env wr ρ σ t fun c σ₁ => if c then Ev C A env wr ρ σ₁ b P else Ev C A env wr ρ σ₁ e P) : Ev C A env wr ρ σ (.IfExp t b e pos) P := by
  constructor
  intro s o f E
  refine wpAny_IfExp (wpAny_mono (h.run s o f E) ?_ fun _ _ x => x)
  rintro c s₁ ⟨σ₁, p, n₁⟩
  cases c <;> exact wpAny_mono (p.run s₁ n₁.ok (f.next n₁) E) (fun _ _ g => Gets.next n₁ g) fun _ _ x => x

theorem ex1_assign {x : Str} {px pos : Pos} {e : Expr} {P : Fl → Rho → Sto → Prop} (h : Ev C A env wr ρ σ e fun d σ₁ => P .nx (setR ρ x d) σ₁) (hx : CanSt env wr x)
    (hs : swapsWith e (some (.Name x px)) pos.line env = pure false := by rfl) : Ex1 C A env wr ρ σ (.Assign [.Name x px] e pos) P := by
  constructor
  intro s o f E
  refine wpAny_Assign_Name (wpAny_mono (h.run s o f E) ?_ fun _ _ x => x) hs
  rintro v s₁ ⟨d, σ₁, p, r, n₁⟩
  exact wp_store n₁.ok (f.next n₁) r hx fun s₂ n₂ f₂ => ⟨_, _, _, p, .nx, (n₁.nz f).trans n₂, f₂⟩
theorem ex1_if {t : Expr} {b e : List Stmt} {pos : Pos} {P : Fl → Rho → Sto → Prop} (h : Bv C A env wr ρ σ t fun c σ₁ => if c then Ex C A env wr ρ σ₁ b P else Ex C A env wr ρ σ₁ e P) : Ex1 C A env wr ρ σ (.If t b e pos) P := by
  constructor
  intro s o f E
  refine wpAny_If (wpAny_mono (h.run s o f E) ?_ fun _ _ x => x)
  rintro c s₁ ⟨σ₁, p, n₁⟩
  cases c <;> exact wpAny_mono (p.run s₁ n₁.ok (f.next n₁) E) (fun _ _ g => Does.next (n₁.nz f) g) fun _ _ x => x
theorem ex1_return {e : Expr} {pos : Pos} {P : Fl → Rho → Sto → Prop} (h : Ev C A env wr ρ σ e fun d σ₁ => P (.ret d) ρ σ₁) : Ex1 C A env wr ρ σ (.Return (some e) pos) P := by
  constructor
  intro s o f E
  refine wpAny_Return_some (wpAny_mono (h.run s o f E) ?_ fun _ _ x => x)
  rintro v s₁ ⟨d, σ₁, p, r, n₁⟩
  exact ⟨_, _, _, p, .ret r, n₁.nz f, f.next n₁⟩
theorem ex1_expr {e : Expr} {pos : Pos} {P : Fl → Rho → Sto → Prop} (h : Ev C A env wr ρ σ e fun _ σ₁ => P .nx ρ σ₁) (hi : interactive env = false := by rfl) (hs : swapsWith e none pos.line env = pure false := by rfl) : Ex1 C A env wr ρ σ (.Expr e pos) P := by
  constructor
  intro s o f E
  refine wpAny_Expr_any (wpAny_mono (h.run s o f E) ?_ fun _ _ x => x) hi hs
  rintro v s₁ ⟨d, σ₁, p, r, n₁⟩
  exact ⟨_, _, _, p, .nx, n₁.nz f, f.next n₁⟩

theorem ex1_while {t : Expr} {b : List Stmt} {pos : Pos} {P : Fl → Rho → Sto → Prop} (I : Nat → Rho → Sto → Prop) (n : Nat) (h0 : I n ρ σ)
    (turn : ∀ n ρ₁ σ₁, I n ρ₁ σ₁ → Bv C A env wr ρ₁ σ₁ t fun c σ₂ => if c then Ex C A env wr ρ₁ σ₂ b (fun fl ρ₃ σ₃ => match fl with
        | .nx | .cont => ∃ m, m < n ∧ ∃ ρ₄, Sub ρ₄ ρ₃ ∧ I m ρ₄ σ₃
        | .brk => P .nx ρ₃ σ₃
        | .ret d => P (.ret d) ρ₃ σ₃) else P .nx ρ₁ σ₂) : Ex1 C A env wr ρ σ (.While t b [] pos) P := by
  constructor
  intro s o f E
  refine wpAny_While (codeAny_whileLoop (fun n s₁ => ∃ ρ₁ σ₁, I n ρ₁ σ₁ ∧ Nz C env wr σ s σ₁ s₁ ∧ Fm C σ₁ s₁.heap env wr ρ₁) ?_ n ⟨ρ, σ, h0, .refl o f, f⟩)
  rintro n s₁ ⟨ρ₁, σ₁, i, n₁, f₁⟩
  refine wpAny_mono ((turn n ρ₁ σ₁ i).run s₁ n₁.ok f₁ _) ?_ fun _ _ x => x
  rintro c s₂ ⟨σ₂, p, n₂⟩
  cases c with
  | false => exact wpAny_execs_nil ⟨_, _, _, p, .nx, n₁.trans (n₂.nz f₁), f₁.next n₂⟩
  | true =>
    refine wpAny_mono (p.run s₂ n₂.ok (f₁.next n₂) _) ?_ fun _ _ x => x
    rintro fl s₃ ⟨l, ρ₃, σ₃, q, r, n₃, f₃⟩
    have nn := (n₁.trans (n₂.nz f₁)).trans n₃
    cases r with
    | nx => obtain ⟨m, hm, ρ₄, hs, i⟩ := q; exact ⟨m, hm, ρ₄, σ₃, i, nn, f₃.sub hs⟩
    | cont => obtain ⟨m, hm, ρ₄, hs, i⟩ := q; exact ⟨m, hm, ρ₄, σ₃, i, nn, f₃.sub hs⟩
    | brk => exact ⟨_, _, _, q, .nx, nn, f₃⟩
    | ret q' => exact ⟨_, _, _, q, .ret q', nn, f₃⟩
end
end Mine
namespace Mine

section
variable {C : Cx} {A : Around} {env : Env} {wr : Bool} {ρ : Rho} {σ : Sto} {E : Value → Shared → Prop} {s : Shared}

/-- expressions one behind the other -/
noncomputable def EvL (C : Cx) (A : Around) (env : Env) (wr : Bool) (ρ : Rho) : Sto → List Expr → (List D → Sto → Prop) → Prop
  | σ, [], P => P [] σ
  | σ, e :: es, P => Ev C A env wr ρ σ e fun d σ₁ => EvL C A env wr ρ σ₁ es fun ds σ₂ => P (d :: ds) σ₂

noncomputable def noStar : List Expr → Bool
  | [] => true
  | .Starred _ _ :: _ => false
  | _ :: r => noStar r
theorem noStar_cons {e : Expr} {es : List Expr} (h : noStar (e :: es) = true) : noStar es = true ∧ starEach (e :: es) env = (false, eval e env) :: starEach es env := by
  cases e <;> first | exact ⟨h, rfl⟩ | cases h
theorem noStar_any {pos : Pos} : ∀ {es : List Expr}, noStar es = true → (backTo pos (starEach es env)).any (·.1) = false
  | [], _ => rfl
  | e :: es, h => by
    obtain ⟨h1, h2⟩ := noStar_cons (env := env) h
    rw [h2]
    show (false || (backTo pos (starEach es env)).any (·.1)) = false
    rw [noStar_any h1]; rfl

theorem wp_spliced {pos : Pos} : ∀ {es : List Expr} {P : List D → Sto → Prop} {σ : Sto} {s : Shared}, noStar es = true → EvL C A env wr ρ σ es P → Ok C σ s.heap → Fm C σ s.heap env wr ρ →
    wpAny C.M A (spliced (backTo pos (starEach es env))) (fun vs s' => ∃ ds σ', P ds σ' ∧ RepL s'.heap (C.V σ') vs ds ∧ Nx C σ s σ' s') E s
  | [], P, σ, s, _, h, o, f => spliced_nil ⟨[], σ, h, .nil, .refl o⟩
  | e :: es, P, σ, s, hs, h, o, f => by
    obtain ⟨h1, h2⟩ := noStar_cons (env := env) hs
    rw [h2]
    show wpAny _ _ (spliced ((false, eval e env) :: backTo pos (starEach es env))) _ _ _
    refine spliced_cons (wpAny_mono (Ev.run h s o f E) ?_ fun _ _ x => x)
    rintro v s₁ ⟨d, σ₁, p, r, n₁⟩
    refine wpAny_mono (wp_spliced h1 p n₁.ok (f.next n₁)) ?_ fun _ _ x => x
    rintro vs s₂ ⟨ds, σ₂, q, rs, n₂⟩
    exact ⟨d :: ds, σ₂, q, .cons (r.next n₂) rs, n₁.trans n₂⟩

/-- keyword arguments, by their names -/
noncomputable def EvK (C : Cx) (A : Around) (env : Env) (wr : Bool) (ρ : Rho) : Sto → List Keyword → (List (Str × D) → Sto → Prop) → Prop
  | σ, [], P => P [] σ
  | σ, k :: es, P => Ev C A env wr ρ σ k.value fun d σ₁ => EvK C A env wr ρ σ₁ es fun ds σ₂ => P ((k.arg.getD Str.empty, d) :: ds) σ₂

theorem kws_all {pos : Pos} : ∀ {es : List Keyword}, es.all (·.arg.isSome) = true → (backToKw pos (keywordEach es env)).all (·.1.isSome) = true
  | [], _ => rfl
  | ⟨n, e, p⟩ :: es, h => by
    simp only [List.all_cons, Bool.and_eq_true] at h
    show (n.isSome && (backToKw pos (keywordEach es env)).all (·.1.isSome)) = true
    rw [kws_all h.2, h.1]; rfl
theorem kws_none {pos : Pos} : ∀ {es : List Keyword}, es.all (·.arg.isSome) = true → (backToKw pos (keywordEach es env)).any (·.1.isNone) = false
  | [], _ => rfl
  | ⟨n, e, p⟩ :: es, h => by
    simp only [List.all_cons, Bool.and_eq_true] at h
    show (n.isNone || (backToKw pos (keywordEach es env)).any (·.1.isNone)) = false
    rw [kws_none h.2]; cases n with
    | none => simp at h
    | some _ => rfl

theorem wp_kws {pos : Pos} : ∀ {es : List Keyword} {P : List (Str × D) → Sto → Prop} {σ : Sto} {s : Shared}, es.all (·.arg.isSome) = true → EvK C A env wr ρ σ es P → Ok C σ s.heap → Fm C σ s.heap env wr ρ →
    wpAny C.M A (evalAll ((backToKw pos (keywordEach es env)).map (·.2))) (fun vs s' => ∃ ds σ', P ds σ' ∧ (backToKw pos (keywordEach es env)).filterMap (·.1) = ds.map (·.1) ∧ RepL s'.heap (C.V σ') vs (ds.map (·.2)) ∧ Nx C σ s σ' s') E s
  | [], P, σ, s, _, h, o, f => wpAny_pure ⟨[], σ, h, rfl, .nil, .refl o⟩
  | ⟨none, e, p⟩ :: es, P, σ, s, hk, h, o, f => by simp at hk
  | ⟨some n, e, p⟩ :: es, P, σ, s, hk, h, o, f => by
    simp only [List.all_cons, Bool.and_eq_true] at hk
    show wpAny _ _ (evalAll ((do let v ← eval e env; standAt pos; pure v) :: (backToKw pos (keywordEach es env)).map (·.2))) _ _ _
    refine wpAny_evalAll_cons (wpAny_bind (wpAny_mono (Ev.run h s o f E) ?_ fun _ _ x => x))
    rintro v s₁ ⟨d, σ₁, p₁, r, n₁⟩
    refine wpAny_bind (wpAny_standAt (wpAny_pure ?_))
    refine wpAny_mono (wp_kws hk.2 p₁ n₁.ok (f.next n₁)) ?_ fun _ _ x => x
    rintro vs s₂ ⟨ds, σ₂, q, e₂, rs, n₂⟩
    exact ⟨(n, d) :: ds, σ₂, q, by show n :: (backToKw pos (keywordEach es env)).filterMap (·.1) = n :: ds.map (·.1); rw [e₂], .cons (r.next n₂) rs, n₁.trans n₂⟩

/-- a call of a value -/
structure Ca (C : Cx) (A : Around) (f : Value) (args : List D) (kw : List (Str × D)) (σ : Sto) (P : D → Sto → Prop) : Prop where
  run : ∀ s vs ks, Ok C σ s.heap → RepL s.heap (C.V σ) vs args → RepL s.heap (C.V σ) ks (kw.map (·.2)) → ∀ E, wpAny C.M A (call f vs ((kw.map (·.1)).zip ks)) (Gets C σ s P) E s

/-- how a callee is kept while it is called -/
noncomputable def Kp (C : Cx) (f : Value) : Prop := ∃ k, (k = Keeper.frame ∨ k = Keeper.machine ∨ k = Keeper.boundFrame) ∧ Looks C.M C.h₀ (keeperOf f) k
theorem kp_builtin {id : String} : Kp C (.builtin id) := ⟨.machine, .inr (.inl rfl), Looks.of_pure rfl⟩
theorem kp_type {id : String} : Kp C (.type id) := ⟨.machine, .inr (.inl rfl), Looks.of_pure rfl⟩
theorem kp_K {K : Frag} {f : Value} (X : K.In C.h₀) (h : keepIn K f = true) : Kp C f := keeps_K h _ X
theorem wp_callWith {pos : Pos} {f : Value} {first : List Value} {fd : List D} {args : List Expr} {kws : List Keyword} {P : D → Sto → Prop} (hf : Kp C f) (o : Ok C σ s.heap) (fm : Fm C σ s.heap env wr ρ) (rf : RepL s.heap (C.V σ) first fd)
    (h : EvL C A env wr ρ σ args fun ds σ₁ => EvK C A env wr ρ σ₁ kws fun ks σ₂ => Ca C A f (fd ++ ds) ks σ₂ P)
    (hs : noStar args = true) (hk : kws.all (·.arg.isSome) = true) :
    wpAny C.M A (callWith pos f first (backTo pos (starEach args env)) (backToKw pos (keywordEach kws env))) (Gets C σ s P) E s := by
  obtain ⟨k, hk', L⟩ := hf
  refine callWith_of (P := fun h => ∀ a o, C.h₀.get? a = some o → h.get? a = some o) (by rw [noStar_any hs, kws_none hk]; rfl) (fun h q => ⟨k, hk', L.keeps q⟩) ?_
  have key : wpAny C.M A (spliced (backTo pos (starEach args env))) (fun vs s₁ => wpAny C.M A (evalAll ((backToKw pos (keywordEach kws env)).map (·.2)))
      (fun ks s₂ => (∀ a o, C.h₀.get? a = some o → s₂.heap.get? a = some o) ∧ wpAny C.M A (call f (first ++ vs) (((backToKw pos (keywordEach kws env)).filterMap (·.1)).zip ks)) (Gets C σ s P) E s₂) E s₁) E s := by
    refine wpAny_mono (wp_spliced hs h o fm) ?_ fun _ _ x => x
    rintro vs s₁ ⟨ds, σ₁, p₁, r₁, n₁⟩
    refine wpAny_mono (wp_kws hk p₁ n₁.ok (fm.next n₁)) ?_ fun _ _ x => x
    rintro ks s₂ ⟨es, σ₂, p₂, e₂, r₂, n₂⟩
    refine ⟨n₂.ok.base, ?_⟩
    rw [e₂]
    exact wpAny_mono (p₂.run s₂ _ ks n₂.ok ((rf.next (n₁.trans n₂)).append (r₁.next n₂)) r₂ E) (fun _ _ g => Gets.next (n₁.trans n₂) g) fun _ _ x => x
  cases args with
  | nil =>
    refine evalArgs_kw_nil (kws_all hk) ?_
    exact fun Γ p hΓ => (key Γ p hΓ) Γ p hΓ
  | cons e es =>
    obtain ⟨_, h2⟩ := noStar_cons (env := env) hs
    rw [h2] at key ⊢
    exact evalArgs_kw (kws_all hk) key

theorem ev_call {f : Str} {p pos : Pos} {args : List Expr} {kws : List Keyword} {P : D → Sto → Prop}
    (h : Ev C A env wr ρ σ (.Name f p) fun fd σ₁ => ∃ fv, fd = .raw fv ∧ Kp C fv ∧ EvL C A env wr ρ σ₁ args fun ds σ₂ => EvK C A env wr ρ σ₂ kws fun ks σ₃ => Ca C A fv ds ks σ₃ P)
    (hs : noStar args = true := by rfl) (hk : kws.all (·.arg.isSome) = true := by rfl) : Ev C A env wr ρ σ (.Call (.Name f p) args kws pos) P := by
  constructor
  intro s o fm E
  refine wpAny_Call_Name_kw (wpAny_mono (h.run s o fm E) ?_ fun _ _ x => x)
  rintro v s₁ ⟨_, σ₁, ⟨fv, rfl, kp, q⟩, r, n₁⟩
  cases r
  exact wpAny_mono (wp_callWith kp n₁.ok (fm.next n₁) .nil q hs hk) (fun _ _ g => Gets.next n₁ g) fun _ _ x => x
end
end Mine
namespace Mine

section
variable {C : Cx} {A : Around} {env : Env} {wr : Bool} {ρ : Rho} {σ : Sto} {E : Value → Shared → Prop} {s : Shared}

theorem bindL_other {k : Str → Option NameKind} {x : Str} : ∀ (bs : List (Str × Value)) (m : Str → Option Value), x ∉ bs.map (·.1) → bindL k bs m x = m x
  | [], _, _ => rfl
  | (n, w) :: r, m, h => by
    simp only [List.map_cons, List.mem_cons, not_or] at h
    rw [bindL, bindL_other r _ h.2]
    split
    · show (if x = n then some w else m x) = m x; rw [if_neg h.1]
    · rfl
theorem bindC_other {k : Str → Option NameKind} {x : Str} : ∀ (bs : List (Str × Value)) (m : Str → Option Value), x ∉ bs.map (·.1) → bindC k bs m x = m x
  | [], _, _ => rfl
  | (n, w) :: r, m, h => by
    simp only [List.map_cons, List.mem_cons, not_or] at h
    rw [bindC, bindC_other r _ h.2]
    split
    · rfl
    · show (if x = n then some w else m x) = m x; rw [if_neg h.1]
theorem bindL_get {k : Str → Option NameKind} {x : Str} {v : Value} (hx : k x = some .local) : ∀ (bs : List (Str × Value)) (m : Str → Option Value), (bs.map (·.1)).Nodup → (x, v) ∈ bs → bindL k bs m x = some v
  | (n, w) :: r, m, hn, h => by
    simp only [List.map_cons, List.nodup_cons] at hn
    rw [bindL]
    rcases List.mem_cons.mp h with e | h
    · cases e
      rw [bindL_other r _ hn.1, if_pos hx]; simp
    · exact bindL_get hx r _ hn.2 h
theorem bindC_get {k : Str → Option NameKind} {x : Str} {v : Value} (hx : k x ≠ some .local) : ∀ (bs : List (Str × Value)) (m : Str → Option Value), (bs.map (·.1)).Nodup → (x, v) ∈ bs → bindC k bs m x = some v
  | (n, w) :: r, m, hn, h => by
    simp only [List.map_cons, List.nodup_cons] at hn
    rw [bindC]
    rcases List.mem_cons.mp h with e | h
    · cases e
      rw [bindC_other r _ hn.1, if_neg hx]; simp
    · exact bindC_get hx r _ hn.2 h

theorem zip_lookup {h : Heap} {S : List Addr} : ∀ {ρ₀ : Rho} {bs : List Value}, RepL h S bs (ρ₀.map (·.2)) → ∀ {x : Str} {d : D}, ρ₀.lookup x = some d → ∃ v, (x, v) ∈ (ρ₀.map (·.1)).zip bs ∧ Rep h S v d
  | [], _, _, _, _, e => by simp [List.lookup] at e
  | (y, f) :: r, bs, q, x, d, e => by
    cases q with
    | cons q1 q2 =>
      simp only [List.lookup] at e
      split at e
      · rename_i hxy
        have := eq_of_beq hxy; subst this
        cases e
        exact ⟨_, List.mem_cons_self .., q1⟩
      · obtain ⟨v, hv, rv⟩ := zip_lookup q2 e
        exact ⟨v, List.mem_cons_of_mem _ hv, rv⟩
theorem zip_names {ρ₀ : Rho} {bs : List Value} (h : bs.length = ρ₀.length) : ((ρ₀.map (·.1)).zip bs).map (·.1) = ρ₀.map (·.1) := by
  rw [List.map_fst_zip]; simp [h]

/-- the frame of a call -/
noncomputable def fenv (fd : FuncData) (fa L : Addr) : Env := newEnv fd.scope L fd.globals (cellsFrom (L + 1) fd.scope.names []) (fd.qualname ++ ".<locals>.") (some fa) fd.code none fd.builtins

/-- how arguments are bound -/
noncomputable def Bnd (C : Cx) (fd : FuncData) (args : List D) (kw : List (Str × D)) (σ : Sto) (R : Rho → Sto → Prop) : Prop :=
  ∀ A s vs ks, Ok C σ s.heap → RepL s.heap (C.V σ) vs args → RepL s.heap (C.V σ) ks (kw.map (·.2)) → ∀ E, wpAny C.M A (bindArgs fd ⟨vs, (kw.map (·.1)).zip ks⟩) (fun binds s₁ =>
    ∃ ρ₀ σ₁ bs, R ρ₀ σ₁ ∧ binds = (ρ₀.map (·.1)).zip bs ∧ RepL s₁.heap (C.V σ₁) bs (ρ₀.map (·.2)) ∧ Nx C σ s σ₁ s₁) E s

structure FnAt (C : Cx) (fa : Addr) (fd : FuncData) (body : List Stmt) : Prop where
  get : ∃ o, C.h₀.get? fa = some o ∧ o.data = .func fd
  code : C.h₀.CodeRec fd.code fd.qualname
  body : fd.body = .stmts body
  plain : (fd.closure.isEmpty && fd.globals == mainGlobals && fd.builtins == builtinsNs && !fd.scope.isCoroutine && !fd.scope.isGenerator && fd.scope.kind == .function) = true
noncomputable def bindsOk (fd : FuncData) (names : List Str) : Bool := (names.all fun x => fd.scope.names.lookup x == some .local || fd.scope.names.lookup x == some .cell) && decide names.Nodup

theorem free_of_size {h : Heap} {a : Addr} (o : Ok C σ h) (ha : h.objs.size ≤ a) : C.Free a ∧ a ∉ σ.S := by
  refine ⟨⟨?_, fun p hp e => ?_, fun hz => ?_⟩, fun hm => ?_⟩
  · cases e : C.h₀.get? a with
    | none => rfl
    | some x => exact absurd (Heap.lt_size (o.base _ _ e)) (Nat.not_lt.mpr ha)
  · have := Heap.lt_size (o.pin p hp); rw [e] at this; exact absurd this (Nat.not_lt.mpr ha)
  · obtain ⟨x, e⟩ := o.zs a hz; exact absurd (Heap.lt_size e) (Nat.not_lt.mpr ha)
  · obtain ⟨p, hp, e⟩ := List.mem_map.mp hm
    obtain ⟨n, q, _⟩ := o.at_ p hp
    have := Heap.lt_size q; rw [e] at this; exact absurd this (Nat.not_lt.mpr ha)

theorem mem_lookup {α : Type} {x : Str} {c : α} : ∀ {l : List (Str × α)}, l.lookup x = some c → (x, c) ∈ l
  | [], e => by simp [List.lookup] at e
  | (y, d) :: r, e => by
    simp only [List.lookup] at e
    split at e
    · rename_i h; have := eq_of_beq h; subst this; cases e; exact List.mem_cons_self ..
    · exact List.mem_cons_of_mem _ (mem_lookup e)
theorem pairwise_eq {l : List (Str × Addr)} (h : l.Pairwise fun x y => x.2 ≠ y.2) {x y : Str} {c : Addr} (hx : (x, c) ∈ l) (hy : (y, c) ∈ l) : x = y := by
  induction l with
  | nil => cases hx
  | cons p r ih =>
    rw [List.pairwise_cons] at h
    rcases List.mem_cons.mp hx with e | hx' <;> rcases List.mem_cons.mp hy with e' | hy'
    · rw [← e] at e'; cases e'; rfl
    · exact absurd (by rw [← e]) (h.1 _ hy')
    · exact absurd (by rw [← e']) (h.1 _ hx')
    · exact ih h.2 hx' hy'

theorem Rm.deeper {n : Nat} {A : Around} (r : Rm (n + 1) A) (env : Env) : Rm n (A.deeper env) := by
  refine ⟨r.handled, ?_, ?_⟩
  · have := r.depth; show A.depth + 1 + n < 600; omega
  · have := r.units; show A.units + 3 + 12 * n < 8000; omega

theorem ca_fun {fa : Addr} {fd : FuncData} {body : List Stmt} {args : List D} {kw : List (Str × D)} {P : D → Sto → Prop} {n : Nat} (rm : Rm (n + 1) A) (F : FnAt C fa fd body)
    (hb : Bnd C fd args kw σ fun ρ₀ σ₁ => bindsOk fd (ρ₀.map (·.1)) = true ∧
      ∀ L, Ex C (A.deeper (fenv fd fa L)) (fenv fd fa L) true ρ₀ σ₁ body fun fl _ σ' => P (match fl with | .ret d => d | _ => .none) σ') : Ca C A (.ref fa) args kw σ P := by
  constructor
  intro s vs ks o r q E
  obtain ⟨⟨ob, ho, hd⟩, hcd, hbody, hpl⟩ := F
  simp only [Bool.and_eq_true, beq_iff_eq, Bool.not_eq_true', List.isEmpty_iff] at hpl
  obtain ⟨⟨⟨⟨⟨hcl, hgl⟩, hbl⟩, hco⟩, hgen⟩, hk⟩ := hpl
  refine wpAny_call (codeAny_call_function (by have := rm.depth; show A.depth < 1000; omega) (o.base _ _ ho) hd hco hgen hbody (hcd.keeps o.base) ?_)
  refine wpAny_mono (hb _ s vs ks o r q _) ?_ fun _ _ x => x
  rintro binds s₁ ⟨ρ₀, σ₁, bs, ⟨hok, hx⟩, rfl, rb, n₁⟩
  simp only [bindsOk, Bool.and_eq_true, decide_eq_true_eq] at hok
  have hnm : ((ρ₀.map (·.1)).zip bs).map (·.1) = ρ₀.map (·.1) := zip_names (by have := rb.length; simpa using this)
  have hall : (((ρ₀.map (·.1)).zip bs).all fun y => fd.scope.names.lookup y.1 == some .local || fd.scope.names.lookup y.1 == some .cell) = true := by
    rw [List.all_eq_true]
    intro y hy
    exact List.all_eq_true.mp hok.1 y.1 (hnm ▸ List.mem_map_of_mem hy)
  rw [hcl]
  refine wpAny_newFunctionEnv_cells hk (kindsX hall _) ?_
  rintro env' rfl s₂ ic
  have icm := ic.toInCall
  obtain ⟨h₂, tk, e₂⟩ := icm.same
  have L0 : (newEnv fd.scope s₁.heap.objs.size fd.globals (cellsFrom (s₁.heap.objs.size + 1) fd.scope.names []) (fd.qualname ++ ".<locals>.") (some fa) fd.code none fd.builtins) = fenv fd fa s₁.heap.objs.size := rfl
  rw [L0] at ic icm ⊢
  have n₂ : Nx C σ₁ s₁ σ₁ s₂ := Nx.of_keeps n₁.ok icm.keep (by rw [e₂]) (by rw [e₂])
  have hL : (fenv fd fa s₁.heap.objs.size).locals = s₁.heap.objs.size := rfl
  have fm : Fm C σ₁ s₂.heap (fenv fd fa s₁.heap.objs.size) true ρ₀ := by
    refine ⟨⟨_, icm.ns, fun x d e => ?_⟩, hk, hgl, hbl, ?_, fun x c hc => ?_, fun x y c hx hy => ?_⟩
    · obtain ⟨v, hv, rv⟩ := zip_lookup rb e
      refine ⟨v, rv.next n₂, ?_⟩
      have hnd : (((ρ₀.map (·.1)).zip bs).map (·.1)).Nodup := by rw [hnm]; exact hok.2
      rcases kindsX hall (s₁.heap.objs.size + 1) _ hv with hx | ⟨hx, hs⟩
      · exact .inl ⟨hx, bindL_get hx _ _ hnd hv⟩
      · obtain ⟨c, hc⟩ := Option.isSome_iff_exists.mp hs
        refine .inr ⟨.inl hx, c, hc, ?_⟩
        have := ic.cell x c hc
        rwa [bindC_get (k := (fenv fd fa s₁.heap.objs.size).kindOf) (by show fd.scope.names.lookup x ≠ some .local; rw [hx]; intro z; cases z) _ _ hnd hv] at this
    · exact free_of_size n₁.ok (Nat.le_refl _)
    · have ab := ic.above x c (mem_lookup hc)
      have fr := free_of_size n₁.ok (Nat.le_of_lt ab)
      exact ⟨⟨_, ic.cell x c hc⟩, fun z => by rw [z] at ab; exact Nat.lt_irrefl _ ab, fr.2, fun _ => fr.1⟩
    · exact pairwise_eq ic.apart (mem_lookup hx) (mem_lookup hy)
  refine ⟨?_, codeAny_func (wpAny_mono ((hx _).run s₂ n₂.ok fm _) ?_ fun _ _ x => x)⟩
  · obtain ⟨mc, hn, hm⟩ := C.lim; exact ⟨mc, Ns.keep hn n₂.ok.base, hm⟩
  rintro fl s₃ ⟨l, ρ', σ', p, rf, n₃, _⟩
  have fin : Nx C σ s σ' s₃ := by
    refine n₁.trans ⟨n₃.ok, fun a x e hn => ?_, n₃.gens.trans n₂.gens, n₃.os.trans n₂.os⟩
    refine n₃.le a x (icm.keep _ _ e) hn ?_
    have lt := Heap.lt_size e
    rintro (z | ⟨_, y, hc⟩)
    · rw [z, hL] at lt; exact Nat.lt_irrefl _ lt
    · have := ic.above y a (mem_lookup hc); exact absurd (Nat.lt_trans lt this) (Nat.lt_irrefl _)
  cases rf with
  | ret r => exact ⟨_, _, p, r, fin⟩
  | _ => exact ⟨_, _, p, .none, fin⟩

theorem bnd_pure {fd : FuncData} {args : List D} {kw : List (Str × D)} {R : Rho → Sto → Prop} (ρ₀ : Rho) (h : R ρ₀ σ)
    (hb : ∀ s vs ks, Ok C σ s.heap → RepL s.heap (C.V σ) vs args → RepL s.heap (C.V σ) ks (kw.map (·.2)) → ∃ bs, BindsTo s fd ⟨vs, (kw.map (·.1)).zip ks⟩ ((ρ₀.map (·.1)).zip bs) ∧ RepL s.heap (C.V σ) bs (ρ₀.map (·.2))) : Bnd C fd args kw σ R := by
  intro A s vs ks o r q E
  obtain ⟨bs, b, rb⟩ := hb s vs ks o r q
  exact b _ _ _ _ ⟨ρ₀, σ, bs, h, rfl, rb, .refl o⟩
theorem bnd1 {fd : FuncData} {x : Str} {d : D} {R : Rho → Sto → Prop} (hb : ∀ v, bindArgs fd ⟨[v], []⟩ = pure [(x, v)]) (h : R [(x, d)] σ) : Bnd C fd [d] [] σ R :=
  bnd_pure [(x, d)] h fun s vs ks o r q => by
    cases q
    cases r with | cons r1 r => cases r; exact ⟨[_], .of_eq (hb _), .cons r1 .nil⟩
theorem bnd2 {fd : FuncData} {x y : Str} {d e : D} {R : Rho → Sto → Prop} (hb : ∀ v u, bindArgs fd ⟨[v, u], []⟩ = pure [(x, v), (y, u)]) (h : R [(x, d), (y, e)] σ) : Bnd C fd [d, e] [] σ R :=
  bnd_pure [(x, d), (y, e)] h fun s vs ks o r q => by
    cases q
    cases r with | cons r1 r => cases r with | cons r2 r => cases r; exact ⟨[_, _], .of_eq (hb _ _), .cons r1 (.cons r2 .nil)⟩
theorem bnd3 {fd : FuncData} {x y z : Str} {d e f : D} {R : Rho → Sto → Prop} (hb : ∀ v u w, bindArgs fd ⟨[v, u, w], []⟩ = pure [(x, v), (y, u), (z, w)]) (h : R [(x, d), (y, e), (z, f)] σ) : Bnd C fd [d, e, f] [] σ R :=
  bnd_pure [(x, d), (y, e), (z, f)] h fun s vs ks o r q => by
    cases q
    cases r with | cons r1 r => cases r with | cons r2 r => cases r with | cons r3 r => cases r; exact ⟨[_, _, _], .of_eq (hb _ _ _), .cons r1 (.cons r2 (.cons r3 .nil))⟩
end
end Mine
namespace Mine

abbrev Src := Option (Addr × List Value × List D)
noncomputable def InSt : Src → Sto → Prop
  | none, _ => True
  | some p, σ => p ∈ σ

section
variable {C : Cx} {A : Around} {env : Env} {wr : Bool} {ρ : Rho} {σ : Sto} {E : Value → Shared → Prop} {s : Shared}

theorem Seqs.trans {h h' h'' : Heap} {S S' S'' : List Addr} (x : Seqs h S h' S') (y : Seqs h' S' h'' S'') : Seqs h S h'' S'' :=
  fun a o e n q => y a o (x a o e n q).1 (x a o e n q).2 q
theorem upd_keep {a : Addr} {h h' : Heap} (o : Ok C σ h) (ha : C.Free a) (hS : a ∉ σ.S) (hb : ∀ b x, b ≠ a → h.get? b = some x → h'.get? b = some x) (hq : ∀ x, h.get? a = some x → ¬ Frz x) :
    Ok C σ h' ∧ Seqs h (C.V σ) h' (C.V σ) := by
  have sq : Seqs h (C.V σ) h' (C.V σ) := fun b x e n q => by
    have hne : b ≠ a := fun z => by subst z; exact hq x e q
    exact ⟨hb b x hne e, n⟩
  refine ⟨⟨fun b x e => ?_, fun p hp => hb _ _ (ha.2.1 p hp) (o.pin p hp), o.off, fun p hp => ?_, o.nd, fun b hb' => (o.zs b hb').imp fun x e => hb b x (fun z => ha.2.2 (z ▸ hb')) e⟩, sq⟩
  · have hne : b ≠ a := fun z => by subst z; rw [ha.1] at e; cases e
    exact hb b x hne (o.base b x e)
  · obtain ⟨n, e, r⟩ := o.at_ p hp
    have hne : p.1 ≠ a := fun z => hS (z ▸ List.mem_map_of_mem hp)
    exact ⟨n, hb _ _ hne e, r.mono sq⟩
theorem Fm.but {a : Addr} {h h' : Heap} (f : Fm C σ h env wr ρ) (hb : ∀ b x, b ≠ a → h.get? b = some x → h'.get? b = some x) (ho : ¬ Own env a) (sq : Seqs h (C.V σ) h' (C.V σ)) : Fm C σ h' env wr ρ := by
  have hL : env.locals ≠ a := fun z => ho (.inl z.symm)
  have hc : ∀ x c, env.cells.lookup x = some c → c ≠ a := fun x c e z => ho (.inr ⟨x, z ▸ e⟩)
  obtain ⟨ml, ⟨oL, es, ep, e, r⟩, hh⟩ := f.has
  refine ⟨⟨ml, ⟨oL, es, ep, hb _ _ hL e, r⟩, fun x d q => ?_⟩, f.kind, f.glob, f.blt, f.offL, fun x c q => ?_, f.apart⟩
  · obtain ⟨v, rv, k⟩ := hh x d q
    exact ⟨v, rv.mono sq, k.imp id fun ⟨k1, c, k2, o, k3, k4⟩ => ⟨k1, c, k2, o, hb _ _ (hc x c k2) k3, k4⟩⟩
  · obtain ⟨⟨v, o, k3, k4⟩, n⟩ := f.cells x c q
    exact ⟨⟨v, o, hb _ _ (hc x c q) k3, k4⟩, n⟩
theorem own_not_frz {h : Heap} (f : Fm C σ h env wr ρ) {a : Addr} (ho : Own env a) {o : Obj} (e : h.get? a = some o) : ¬ Frz o := by
  rcases ho with rfl | ⟨x, hc⟩
  · obtain ⟨ml, ⟨oL, es, ep, e', hd, _⟩, _⟩ := f.has
    rw [e'] at e; cases e
    rintro (⟨_, _, z⟩ | ⟨⟨_, z⟩, _⟩) <;> rw [hd] at z <;> cases z
  · obtain ⟨⟨v, o', e', hd⟩, _⟩ := f.cells x a hc
    rw [e'] at e; cases e
    rintro (⟨_, _, z⟩ | ⟨⟨_, z⟩, _⟩) <;> rw [hd] at z <;> cases z
theorem Nz.seqs {σ' : Sto} {s' : Shared} (x : Nz C env wr σ s σ' s') (f : Fm C σ s.heap env wr ρ) : Seqs s.heap (C.V σ) s'.heap (C.V σ') := fun a o e n q => by
  simp only [Cx.V, List.mem_append, not_or] at n ⊢
  have := x.le a o e n.1 fun w => own_not_frz f w.own e q
  exact ⟨this.1, this.2, n.2⟩
theorem free_of_none {h : Heap} {a : Addr} (o : Ok C σ h) (ha : h.get? a = none) : C.Free a ∧ a ∉ σ.S := by
  refine ⟨⟨?_, fun p hp e => ?_, fun hz => ?_⟩, fun hm => ?_⟩
  · cases e : C.h₀.get? a with
    | none => rfl
    | some x => have := o.base _ _ e; rw [ha] at this; cases this
  · have := o.pin p hp; rw [e, ha] at this; cases this
  · obtain ⟨x, e⟩ := o.zs a hz; rw [ha] at e; cases e
  · obtain ⟨p, hp, e⟩ := List.mem_map.mp hm
    obtain ⟨n, q, _⟩ := o.at_ p hp
    rw [e, ha] at q; cases q
theorem not_own_of_none {h : Heap} {a : Addr} (f : Fm C σ h env wr ρ) (ha : h.get? a = none) : ¬ Own env a := by
  rintro (rfl | ⟨x, hc⟩)
  · obtain ⟨ml, ⟨oL, es, ep, e', _⟩, _⟩ := f.has; rw [ha] at e'; cases e'
  · obtain ⟨⟨v, o', e', _⟩, _⟩ := f.cells x a hc; rw [ha] at e'; cases e'

/-- an assignment to a target -/
structure Asg (C : Cx) (A : Around) (env : Env) (wr : Bool) (ρ : Rho) (σ : Sto) (t : Expr) (d : D) (P : Rho → Sto → Prop) : Prop where
  run : ∀ s v, Ok C σ s.heap → Fm C σ s.heap env wr ρ → Rep s.heap (C.V σ) v d → ∀ E, wpAny C.M A (assign t env v) (fun _ s' => ∃ ρ' σ', P ρ' σ' ∧ Nz C env wr σ s σ' s' ∧ Fm C σ' s'.heap env wr ρ') E s
theorem asg_name {x : Str} {pos : Pos} {d : D} {P : Rho → Sto → Prop} (hx : CanSt env wr x) (h : P (setR ρ x d) σ) : Asg C A env wr ρ σ (.Name x pos) d P :=
  ⟨fun _ _ o f r _ => wpAny_assign_Name (wp_store o f r hx fun _ n f' => ⟨_, _, h, n, f'⟩)⟩

/-- an iterator at work -/
structure Wk (C : Cx) (A : Around) (I : Addr) (src : Src) (items : List D) (St : Nat → Heap → Sto → Prop) : Prop where
  frame : ∀ i h σ h' σ', St i h σ → (∀ o, h.get? I = some o → h'.get? I = some o) → Seqs h (C.V σ) h' (C.V σ') → Ok C σ' h' → InSt src σ' → St i h' σ'
  item : ∀ i σ (s : Shared) (Q : Option Value → Shared → Prop) (E : Value → Shared → Prop) d, items[i]? = some d → St i s.heap σ → Ok C σ s.heap → InSt src σ →
    (∀ v s', (Ok C σ s'.heap → Seqs s.heap (C.V σ) s'.heap (C.V σ) → Rep s'.heap (C.V σ) v d ∧ St (i + 1) s'.heap σ) → (∀ b o, b ≠ I → s.heap.get? b = some o → s'.heap.get? b = some o) → s'.gens = s.gens → s'.os = s.os → Q (some v) s') → wpAny C.M A (pyNext (.ref I)) Q E s
  done : ∀ σ (s : Shared) (Q : Option Value → Shared → Prop) (E : Value → Shared → Prop), St items.length s.heap σ → Ok C σ s.heap → InSt src σ →
    (∀ s', (∀ b o, b ≠ I → s.heap.get? b = some o → s'.heap.get? b = some o) → s'.gens = s.gens → s'.os = s.os → Q none s') → wpAny C.M A (pyNext (.ref I)) Q E s
  self : ∀ i σ (s : Shared) (Q : Value → Shared → Prop) (E : Value → Shared → Prop), St i s.heap σ → Q (.ref I) s → wpAny C.M A (pyIter (.ref I)) Q E s
  go : ∀ t i σ (s : Shared) v (Q : Unit → Shared → Prop) (E : Value → Shared → Prop), St i s.heap σ → Q () s → wpAny C.M A (letOwnedTupleGo t (.ref I) v) Q E s
  nf : ∀ i h σ, St i h σ → ∀ o, h.get? I = some o → ¬ Frz o
  ex : ∀ i h σ, St i h σ → ∃ o, h.get? I = some o

/-- what comes of iterating over a datum -/
noncomputable def Itr (C : Cx) (A : Around) (d : D) (σ : Sto) (src : Src) (items : List D) : Prop :=
  ∀ s v, Ok C σ s.heap → Rep s.heap (C.V σ) v d → ∀ E Q, (∀ I (St : List Addr → Nat → Heap → Sto → Prop) s', (∀ Zs, Wk (C.withZ Zs) A I src items (St Zs)) → (∀ Zs h'', (∀ o, s'.heap.get? I = some o → h''.get? I = some o) → Seqs s.heap (C.V σ) h'' ((C.withZ Zs).V σ) → St Zs 0 h'' σ) → s.heap.get? I = none → (∀ a o, s.heap.get? a = some o → s'.heap.get? a = some o) → s'.gens = s.gens → s'.os = s.os → Q (.ref I) s') → wpAny C.M A (pyIter v) Q E s

noncomputable def Turns (C : Cx) (A : Around) (env : Env) (wr : Bool) (t : Expr) (body : List Stmt) (P : Fl → Rho → Sto → Prop) (src : Src) : List D → Rho → Sto → Prop
  | [], ρ, σ => P .nx ρ σ
  | d :: ds, ρ, σ => Asg C A env wr ρ σ t d fun ρ₁ σ₁ => Ex C A env wr ρ₁ σ₁ body fun fl ρ₂ σ₂ => match fl with
    | .nx => InSt src σ₂ ∧ Turns C A env wr t body P src ds ρ₂ σ₂
    | .cont => InSt src σ₂ ∧ Turns C A env wr t body P src ds ρ₂ σ₂
    | .brk => P .nx ρ₂ σ₂
    | .ret d => P (.ret d) ρ₂ σ₂

theorem forLoop2 {prog : Program} {w : World} {R : Result → Shared → Prop} {target : Expr} {it : Value} {body orelse : List Stmt} (I : Nat → Shared → Prop)
    (turn : ∀ n s, I n s → wpAny (model prog w) A (pyNext it) (fun r s₁ => match r with
      | none => wpAny (model prog w) A (execs orelse env) (fun f s₃ => R (.ok f) s₃) (notedBy (model prog w) A env fun e s' => R (.error e) s') s₁
      | some v => wpAny (model prog w) A (letOwnedTupleGo target it v) (fun _ s₀ => wpAny (model prog w) A (assign target env v) (fun _ s₂ => wpAny (model prog w) A (execs body env) (fun f s₃ => match f with
          | .next | .cont => ∃ m, m < n ∧ I m s₃
          | .brk => R (.ok .next) s₃
          | .ret v => R (.ok (.ret v)) s₃) (notedBy (model prog w) A env fun e s' => R (.error e) s') s₂) (notedBy (model prog w) A env fun e s' => R (.error e) s') s₀) (notedBy (model prog w) A env fun e s' => R (.error e) s') s₁) (notedBy (model prog w) A env fun e s' => R (.error e) s') s)
    (n : Nat) (h : I n s) : codeAny (model prog w) A (.forLoop target it body orelse env) R s := by
  refine codeAny_loop' rfl I (fun n s hI => ?_) n h
  show wpAny _ _ ((forTurn target it body orelse env).onRaise (fun x => do noteFrame x env; theTreesLotGoes x)) _ _ s
  refine wpAny_noted ?_
  simp only [forTurn]
  refine wpAny_bind (wpAny_standAt (wpAny_bind (wpAny_onRaise (wpAny_mono (turn n s hI) (fun r s₁ h₁ => ?_) fun _ _ h' => wpAny_standAt h'))))
  cases r with
  | none => exact wpAny_pure (.inr ⟨rfl, codeAny_block h₁⟩)
  | some v =>
    refine wpAny_bind (wpAny_mono h₁ (fun _ s₀ h₀ => ?_) fun _ _ h' => h')
    refine wpAny_bind (wpAny_mono h₀ (fun _ s₂ h₂ => wpAny_bind (wpAny_mono h₂ (fun f s₃ h₃ => ?_) fun _ _ h' => h')) fun _ _ h' => h')
    cases f with
    | next => exact wpAny_pure (.inl ⟨rfl, h₃⟩)
    | cont => exact wpAny_pure (.inl ⟨rfl, h₃⟩)
    | brk => exact wpAny_pure h₃
    | ret v => exact wpAny_pure h₃

/-- one look of the iterator, from inside a frame -/
theorem iter_step {s₀ s₁ s₂ : Shared} {σ₁ : Sto} {ρ₁ : Rho} {I : Addr} (nz : Nz C env wr σ s₀ σ₁ s₁) (f : Fm C σ₁ s₁.heap env wr ρ₁) (hI : s₀.heap.get? I = none) (fr : C.Free I) (hS : I ∉ σ₁.S) (ho : ¬ Own env I)
    (nf : ∀ o, s₁.heap.get? I = some o → ¬ Frz o) (hb : ∀ b o, b ≠ I → s₁.heap.get? b = some o → s₂.heap.get? b = some o) (hg : s₂.gens = s₁.gens) (hos : s₂.os = s₁.os) :
    Nz C env wr σ s₀ σ₁ s₂ ∧ Fm C σ₁ s₂.heap env wr ρ₁ ∧ Seqs s₁.heap (C.V σ₁) s₂.heap (C.V σ₁) := by
  obtain ⟨ok, sq⟩ := upd_keep nz.ok fr hS hb nf
  refine ⟨⟨ok, fun a o e n w => ?_, nz.own, hg.trans nz.gens, hos.trans nz.os⟩, f.but hb ho sq, sq⟩
  have := nz.le a o e n w
  exact ⟨hb a o (fun z => by rw [z, hI] at e; cases e) this.1, this.2⟩

theorem ex1_for {target iter : Expr} {body : List Stmt} {pos : Pos} {P : Fl → Rho → Sto → Prop}
    (h : Ev C A env wr ρ σ iter fun d σ₁ => ∃ src items, Itr C A d σ₁ src items ∧ InSt src σ₁ ∧ Turns C A env wr target body P src items ρ σ₁)
    (hs : ∀ x, foldedSetIterable iter env x = pure x := by intro _; rfl) : Ex1 C A env wr ρ σ (.For target iter body [] pos) P := by
  constructor
  intro s o f E
  refine wpAny_For (wpAny_mono (h.run s o f E) ?_ fun _ _ x => x) hs
  rintro v s₁ ⟨d, σ₁, ⟨src, items, it, hin, tn⟩, r, n₁⟩
  refine it s₁ v n₁.ok r _ _ fun I St s₂ W st hI hk hg hos => ?_
  have W : Wk C A I src items (St C.Z) := W C.Z
  have st := st C.Z s₂.heap (fun _ e => e)
  generalize St C.Z = St at W st
  have f₁ := f.next n₁
  have n₂ : Nx C σ₁ s₁ σ₁ s₂ := Nx.of_keeps n₁.ok hk hg hos
  have st0 := st n₂.le.v
  obtain ⟨fr, hS⟩ := free_of_none n₁.ok hI
  have ho := not_own_of_none f₁ hI
  refine forLoop2 (fun n s' => ∃ k ρ' σ', n = items.length - k ∧ k ≤ items.length ∧ St k s'.heap σ' ∧ InSt src σ' ∧ Turns C A env wr target body P src (items.drop k) ρ' σ' ∧ Nz C env wr σ₁ s₁ σ' s' ∧ Fm C σ' s'.heap env wr ρ' ∧ I ∉ σ'.S)
    ?_ (items.length - 0) ⟨0, ρ, σ₁, rfl, Nat.zero_le _, st0, hin, tn, n₂.nz f₁, f₁.next n₂, hS⟩
  rintro n s₃ ⟨k, ρ₃, σ₃, rfl, hk, st₃, in₃, t₃, nz₃, f₃, hS₃⟩
  by_cases hlt : k < items.length
  · have hd : items[k]? = some items[k] := by simp [hlt]
    rw [List.drop_eq_getElem_cons hlt] at t₃
    refine W.item k σ₃ s₃ _ _ _ hd st₃ nz₃.ok in₃ fun v s₄ hv hb hg₄ hos₄ => ?_
    obtain ⟨nz₄, f₄, sq₄⟩ := iter_step nz₃ f₃ hI fr hS₃ ho (W.nf _ _ _ st₃) hb hg₄ hos₄
    obtain ⟨rv, st₄⟩ := hv nz₄.ok sq₄
    refine W.go _ _ _ s₄ v _ _ st₄ ?_
    refine wpAny_mono (Asg.run t₃ s₄ v nz₄.ok f₄ rv _) ?_ fun _ _ x => x
    rintro _ s₅ ⟨ρ₅, σ₅, ex, nz₅, f₅⟩
    refine wpAny_mono (ex.run s₅ nz₅.ok f₅ _) ?_ fun _ _ x => x
    rintro fl s₆ ⟨l, ρ₆, σ₆, p, rf, nz₆, f₆⟩
    have nz := (nz₄.trans nz₅).trans nz₆
    have keepI : (∀ o, s₄.heap.get? I = some o → s₆.heap.get? I = some o) := fun o e => ((nz₅.trans nz₆).le I o e hS₃ fun w => ho w.own).1
    have again : InSt src σ₆ ∧ Turns C A env wr target body P src (items.drop (k + 1)) ρ₆ σ₆ → ∃ m, m < items.length - k ∧ ∃ k ρ' σ', m = items.length - k ∧ k ≤ items.length ∧ St k s₆.heap σ' ∧ InSt src σ' ∧ Turns C A env wr target body P src (items.drop k) ρ' σ' ∧ Nz C env wr σ₁ s₁ σ' s₆ ∧ Fm C σ' s₆.heap env wr ρ' ∧ I ∉ σ'.S := by
      rintro ⟨in₆, t₆⟩
      have hI6 : I ∉ σ₆.S := by
        obtain ⟨o, e⟩ := W.ex _ _ _ st₄; exact ((nz₅.trans nz₆).le I o e hS₃ fun w => ho w.own).2
      exact ⟨items.length - (k + 1), by omega, k + 1, ρ₆, σ₆, rfl, hlt, W.frame _ _ _ _ _ st₄ keepI ((nz₅.trans nz₆).seqs f₄) nz.ok in₆, in₆, t₆, nz, f₆, hI6⟩
    cases rf with
    | nx => exact again p
    | cont => exact again p
    | brk => exact ⟨_, _, _, p, .nx, (n₁.nz f).trans nz, f₆⟩
    | ret q => exact ⟨_, _, _, p, .ret q, (n₁.nz f).trans nz, f₆⟩
  · have hk' : k = items.length := by omega
    subst hk'
    rw [List.drop_length] at t₃
    refine W.done σ₃ s₃ _ _ st₃ nz₃.ok in₃ fun s₄ hb hg₄ hos₄ => ?_
    obtain ⟨nz₄, f₄, _⟩ := iter_step nz₃ f₃ hI fr hS₃ ho (W.nf _ _ _ st₃) hb hg₄ hos₄
    exact wpAny_execs_nil ⟨_, _, _, t₃, .nx, (n₁.nz f).trans nz₄, f₄⟩
end
end Mine
namespace Mine

section
variable {C : Cx} {A : Around} {env : Env} {wr : Bool} {ρ : Rho} {σ : Sto} {E : Value → Shared → Prop} {s : Shared}

theorem go_iter {M : Model} {t : Expr} {I : Addr} {v : Value} {o : Obj} {cn : String} {fs : Array Value} {Q : Unit → Shared → Prop} (ho : s.heap.get? I = some o) (hc : o.cls = .type cn) (hd : o.data = .fields fs)
    (hn : (["enumerate", "zip", "dict_itemiterator", "dict_reverseitemiterator", "odict_iterator", "itertools.zip_longest", "itertools.pairwise"] : List String).contains cn = false) (h : Q () s) : wpAny M A (letOwnedTupleGo t (.ref I) v) Q E s := by
  unfold letOwnedTupleGo
  split
  all_goals first
    | exact wpAny_pure h
    | (split
       · rename_i _ _ _ e
         injection e with e1 e2
         injection e1 with e1
         subst e1
         refine wpAny_bind (wpAny_load ho ?_)
         rw [hc, hd]
         simp only [hn, Bool.false_and, Bool.false_eq_true, if_false]
         exact wpAny_pure h
       · exact wpAny_pure h)

theorem wk_list (hh : A.handled = none) {I ax : Addr} {vs : List Value} {ds : List D} (hne : ax ≠ I) :
    Wk C A I none ds (fun i h σ => h.IsListIter I ax i ∧ h.IsList ax vs.toArray ∧ ax ∉ C.V σ ∧ RepL h (C.V σ) vs ds) where
  frame := fun i h σ h' σ' st kI sq _ _ => by
    obtain ⟨⟨o, ho, r⟩, ⟨ol, hl, hc, n, hd⟩, hn, rl⟩ := st
    have := sq ax ol hl hn (.inl ⟨_, _, hd⟩)
    exact ⟨⟨o, kI o ho, r⟩, ⟨ol, this.1, hc, n, hd⟩, this.2, rl.mono sq⟩
  item := fun i σ s Q E d hd st ok _ hQ => by
    obtain ⟨v, hv, rv⟩ := st.2.2.2.get hd
    refine wpAny_pyNext_list_item st.1 st.2.1 (x := v) (by simpa using hv) fun h' hit hb => ?_
    refine hQ v _ (fun ok' sq => ⟨rv.mono sq, hit, ?_, st.2.2.1, st.2.2.2.mono sq⟩) (fun b o hne e => (hb.2 b hne).trans e) rfl rfl
    exact st.2.1.extBut hb.extBut hne
  done := fun σ s Q E st ok _ hQ => by
    refine wpAny_pyNext_list_end hh st.1 st.2.1 (by have := st.2.2.2.length; simp [this]) fun h' he => ?_
    exact hQ _ (fun b o hne e => he b o hne e) rfl rfl
  self := fun i σ s Q E st hQ => wpAny_pyIter_listiter st.1 hQ
  go := fun t i σ s v Q E st hQ => by
    obtain ⟨⟨o, ho, hc, hd⟩, _⟩ := st
    exact go_iter ho hc hd (by decide) hQ
  ex := fun i h σ st => by obtain ⟨⟨o', ho, _⟩, _⟩ := st; exact ⟨_, ho⟩
  nf := fun i h σ st o e => by
    obtain ⟨⟨o', ho, hc, hd⟩, _⟩ := st
    rw [ho] at e; cases e
    rintro (⟨_, _, z⟩ | ⟨_, z⟩)
    · rw [hd] at z; cases z
    · rw [hc] at z; exact absurd z (by decide)

theorem none_at_size {h : Heap} : h.get? h.objs.size = none := by
  cases e : h.get? h.objs.size with
  | none => rfl
  | some o => exact absurd (Heap.lt_size e) (Nat.lt_irrefl _)
theorem itr_list (hh : A.handled = none) {ds : List D} : Itr C A (.list ds) σ none ds := by
  intro s v ok r E Q hQ
  cases r with
  | list hl hn rl =>
    rename_i a vs
    have hlt : a < s.heap.objs.size := let ⟨_, e, _⟩ := hl; Heap.lt_size e
    refine wpAny_pyIter_list hl ?_
    refine hQ s.heap.objs.size _ _ (fun Zs => wk_list (C := C.withZ Zs) hh (vs := vs) (Nat.ne_of_lt hlt)) (fun Zs h'' kI sq => ?_) none_at_size (fun b o e => Heap.get?_push_of_some _ e) rfl rfl
    obtain ⟨ol, e, hc, n, hd⟩ := hl
    have := sq a ol e hn (.inl ⟨_, _, hd⟩)
    exact ⟨⟨_, kI _ (Heap.get?_push_size _ rfl), rfl, rfl⟩, ⟨ol, this.1, hc, n, hd⟩, this.2, rl.mono sq⟩

/-- the store's own list -/
theorem wk_store (hh : A.handled = none) {I l : Addr} {vs : List Value} {ds : List D} (hne : l ≠ I) :
    Wk C A I (some (l, vs, ds)) ds (fun i h _ => h.IsListIter I l i) where
  frame := fun i h σ h' σ' st kI sq _ _ => by
    obtain ⟨o, ho, r⟩ := st
    exact ⟨o, kI o ho, r⟩
  item := fun i σ s Q E d hd st ok hin hQ => by
    obtain ⟨n, e, rl⟩ := ok.at_ _ hin
    have hl : s.heap.IsList l vs.toArray := ⟨_, e, rfl, n, rfl⟩
    obtain ⟨v, hv, rv⟩ := rl.get hd
    refine wpAny_pyNext_list_item st hl (x := v) (by simpa using hv) fun h' hit hb => ?_
    exact hQ v _ (fun ok' sq => ⟨rv.mono sq, hit⟩) (fun b o hne e => (hb.2 b hne).trans e) rfl rfl
  done := fun σ s Q E st ok hin hQ => by
    obtain ⟨n, e, rl⟩ := ok.at_ _ hin
    have hl : s.heap.IsList l vs.toArray := ⟨_, e, rfl, n, rfl⟩
    refine wpAny_pyNext_list_end hh st hl (by have := rl.length; simp at this; simp [this]) fun h' he => ?_
    exact hQ _ (fun b o hne e => he b o hne e) rfl rfl
  self := fun i σ s Q E st hQ => wpAny_pyIter_listiter st hQ
  go := fun t i σ s v Q E st hQ => by
    obtain ⟨o, ho, hc, hd⟩ := st
    exact go_iter ho hc hd (by decide) hQ
  ex := fun i h σ st => by obtain ⟨o', ho, _⟩ := st; exact ⟨_, ho⟩
  nf := fun i h σ st o e => by
    obtain ⟨o', ho, hc, hd⟩ := st
    rw [ho] at e; cases e
    rintro (⟨_, _, z⟩ | ⟨_, z⟩)
    · rw [hd] at z; cases z
    · rw [hc] at z; exact absurd z (by decide)
theorem itr_store (hh : A.handled = none) {l : Addr} {vs : List Value} {ds : List D} (hin : (l, vs, ds) ∈ σ) : Itr C A (.raw (.ref l)) σ (some (l, vs, ds)) ds := by
  intro s v ok r E Q hQ
  cases r
  obtain ⟨n, e, rl⟩ := ok.at_ _ hin
  have hl : s.heap.IsList l vs.toArray := ⟨_, e, rfl, n, rfl⟩
  refine wpAny_pyIter_list hl ?_
  exact hQ s.heap.objs.size _ _ (fun Zs => wk_store (C := C.withZ Zs) hh (Nat.ne_of_lt (Heap.lt_size e))) (fun Zs h'' kI sq => ⟨_, kI _ (Heap.get?_push_size _ rfl), rfl, rfl⟩) none_at_size (fun b o e => Heap.get?_push_of_some _ e) rfl rfl

/-- ranges -/
noncomputable def rangeItems (a c : Int) (n : Nat) : List D := (List.range n).map fun (i : Nat) => .int (a + (i : Int) * c)
theorem wk_range (hh : A.handled = none) {I : Addr} {a c : Int} {n : Nat} :
    Wk C A I none (rangeItems a c n) (fun i h _ => IsRangeIter h I (a + (i : Nat) * c) ((n : Int) - (i : Nat)) c) where
  frame := fun i h σ h' σ' st kI sq _ _ => kI _ st
  item := fun i σ s Q E d hd st ok _ hQ => by
    have hi : i < n := by
      have := (List.getElem?_eq_some_iff.mp hd).1; simpa [rangeItems] using this
    have hd' : d = .int (a + (i : Int) * c) := by
      simp [rangeItems, hi] at hd; exact hd.symm
    subst hd'
    refine wpAny_pyNext_range_item st (by omega) fun h' hit hb => ?_
    refine hQ _ _ (fun ok' sq => ⟨.int _ _, ?_⟩) (fun b o hne e => (hb.2 b hne).trans e) rfl rfl
    have e1 : a + ((i + 1 : Nat) : Int) * c = a + (i : Int) * c + c := by push_cast; rw [Int.add_mul, Int.one_mul, Int.add_assoc]
    have e2 : (n : Int) - ((i + 1 : Nat) : Int) = (n : Int) - (i : Int) - 1 := by push_cast; omega
    rw [e1, e2]; exact hit
  done := fun σ s Q E st ok _ hQ => by
    rw [show (rangeItems a c n).length = n by simp [rangeItems]] at st
    exact wpAny_pyNext_range_end hh st (by omega) fun h' he => hQ _ (fun b o hne e => he b o hne e) rfl rfl
  self := fun i σ s Q E st hQ => wpAny_pyIter_rangeiter st hQ
  go := fun t i σ s v Q E st hQ => go_iter st rfl rfl (by decide) hQ
  ex := fun i h σ st => ⟨_, st⟩
  nf := fun i h σ st o e => by
    rw [st] at e; cases e
    rintro (⟨_, _, z⟩ | ⟨_, z⟩)
    · cases z
    · exact absurd (show Value.type "range_iterator" = Value.type "range" from z) (by decide)
theorem itr_range (hh : A.handled = none) {a b c : Int} {n : Nat} (hsm : Builtin.Range.small a b c = true) (hn : Builtin.Range.rangeSize a b c = (n : Int)) : Itr C A (.range a b c) σ none (rangeItems a c n) := by
  intro s v ok r E Q hQ
  cases r with
  | range hr hnS =>
    refine wpAny_pyIter_range hr hsm ?_
    refine hQ s.heap.objs.size _ _ (fun Zs => wk_range (C := C.withZ Zs) hh) (fun Zs h'' kI sq => ?_) none_at_size (fun b o e => Heap.get?_push_of_some _ e) rfl rfl
    have := Heap.get?_push_size s.heap (o := { cls := .type "range_iterator", data := .fields #[rawInt a, rawInt (Builtin.Range.rangeSize a b c), rawInt c] }) rfl
    have := kI _ this
    rw [hn] at this
    simpa using this

/-- a text's signs -/
noncomputable def signs (x : Str) : List D := x.cps.toList.map fun c => .str ⟨#[c]⟩
theorem wk_str (hh : A.handled = none) {I : Addr} {x : Str} {t : Tok} (cn : String) (hcn : (cn = "str_ascii_iterator") ∨ (cn = "str_iterator")) :
    Wk C A I none (signs x) (fun i h _ => h.IsStrIter I cn x t i) where
  frame := fun i h σ h' σ' st kI sq _ _ => by obtain ⟨o, ho, r⟩ := st; exact ⟨o, kI o ho, r⟩
  item := fun i σ s Q E d hd st ok _ hQ => by
    obtain ⟨c, hc, rfl⟩ : ∃ c, x.cps[i]? = some c ∧ d = .str ⟨#[c]⟩ := by
      simp only [signs, List.getElem?_map, Option.map_eq_some_iff] at hd
      obtain ⟨c, h1, h2⟩ := hd
      exact ⟨c, by simpa using h1, h2.symm⟩
    rcases hcn with rfl | rfl
    · exact wpAny_pyNext_ascii_item st hc fun h' hit hb => hQ _ _ (fun ok' sq => ⟨.str _ _, hit⟩) (fun b o hne e => (hb.2 b hne).trans e) rfl rfl
    · exact wpAny_pyNext_wide_item st hc fun h' hit hb => hQ _ _ (fun ok' sq => ⟨.str _ _, hit⟩) (fun b o hne e => (hb.2 b hne).trans e) rfl rfl
  done := fun σ s Q E st ok _ hQ => by
    rw [show (signs x).length = x.cps.size by simp [signs]] at st
    rcases hcn with rfl | rfl
    · exact wpAny_pyNext_ascii_end hh st (by simp) fun h' he => hQ _ (fun b o hne e => he b o hne e) rfl rfl
    · exact wpAny_pyNext_wide_end hh st (by simp) fun h' he => hQ _ (fun b o hne e => he b o hne e) rfl rfl
  self := fun i σ s Q E st hQ => by
    rcases hcn with rfl | rfl
    · exact wpAny_pyIter_striter_ascii st hQ
    · exact wpAny_pyIter_striter_wide st hQ
  go := fun t i σ s v Q E st hQ => by
    obtain ⟨o, ho, hc, hd⟩ := st
    rcases hcn with rfl | rfl <;> exact go_iter ho hc hd (by decide) hQ
  ex := fun i h σ st => by obtain ⟨o', ho, _⟩ := st; exact ⟨_, ho⟩
  nf := fun i h σ st o e => by
    obtain ⟨o', ho, hc, hd⟩ := st
    rw [ho] at e; cases e
    rintro (⟨_, _, z⟩ | ⟨_, z⟩)
    · rw [hd] at z; cases z
    · rw [hc] at z; rcases hcn with rfl | rfl <;> exact absurd z (by decide)
theorem itr_str (hh : A.handled = none) {x : Str} : Itr C A (.str x) σ none (signs x) := by
  intro s v ok r E Q hQ
  cases r with
  | str _ t =>
    cases ha : x.cps.all (· < 128)
    · refine wpAny_pyIter_wide ha ?_
      exact hQ s.heap.objs.size _ _ (fun Zs => wk_str (C := C.withZ Zs) hh (t := t) "str_iterator" (.inr rfl)) (fun Zs h'' kI sq => ⟨_, kI _ (Heap.get?_push_size _ rfl), rfl, rfl⟩) none_at_size (fun b o e => Heap.get?_push_of_some _ e) rfl rfl
    · refine wpAny_pyIter_ascii ha ?_
      exact hQ s.heap.objs.size _ _ (fun Zs => wk_str (C := C.withZ Zs) hh (t := t) "str_ascii_iterator" (.inl rfl)) (fun Zs h'' kI sq => ⟨_, kI _ (Heap.get?_push_size _ rfl), rfl, rfl⟩) none_at_size (fun b o e => Heap.get?_push_of_some _ e) rfl rfl
end
end Mine
namespace Mine

/-- one more address that no datum leans on -/
noncomputable def Cx.hid (C : Cx) (a : Addr) : Cx := C.withZ (a :: C.Z)

section
variable {C : Cx} {A : Around} {env : Env} {wr : Bool} {ρ : Rho} {σ : Sto} {E : Value → Shared → Prop} {s : Shared}

theorem hid_free {a b : Addr} : (C.hid a).Free b ↔ C.Free b ∧ b ≠ a := by
  simp only [Cx.Free, Cx.hid, Cx.withZ, List.mem_cons, not_or]
  constructor
  · rintro ⟨h1, h2, h3, h4⟩; exact ⟨⟨h1, h2, h4⟩, h3⟩
  · rintro ⟨⟨h1, h2, h4⟩, h3⟩; exact ⟨h1, h2, h3, h4⟩
theorem hid_v {a b : Addr} : b ∈ (C.hid a).V σ ↔ b = a ∨ b ∈ C.V σ := by
  simp only [Cx.V, Cx.hid, Cx.withZ, List.mem_append, List.mem_cons]
  constructor
  · rintro (h | h | h)
    · exact .inr (.inl h)
    · exact .inl h
    · exact .inr (.inr h)
  · rintro (h | h | h)
    · exact .inr (.inl h)
    · exact .inl h
    · exact .inr (.inr h)
theorem hid_seqs {a : Addr} {h h' : Heap} (k : ∀ b o, h.get? b = some o → h'.get? b = some o) (ha : h.get? a = none) : Seqs h (C.V σ) h' ((C.hid a).V σ) := fun b o e n _ =>
  ⟨k b o e, fun hm => (hid_v.mp hm).elim (fun z => by rw [z, ha] at e; cases e) n⟩
theorem unhid_seqs {a : Addr} {h : Heap} : Seqs h ((C.hid a).V σ) h (C.V σ) := fun b o e n _ => ⟨e, fun hm => n (hid_v.mpr (.inr hm))⟩
theorem Ok.hid {a : Addr} {h h' : Heap} (o : Ok C σ h) (k : ∀ b o, h.get? b = some o → h'.get? b = some o) (ha : h.get? a = none) (ha' : ∃ x, h'.get? a = some x) : Ok (C.hid a) σ h' :=
  ⟨fun b x e => k b x (o.base b x e), fun p hp => k _ _ (o.pin p hp), fun p hp => hid_free.mpr ⟨o.off p hp, fun z => by
      obtain ⟨n, e, _⟩ := o.at_ p hp; rw [z, ha] at e; cases e⟩, fun p hp => by
      obtain ⟨n, e, r⟩ := o.at_ p hp; exact ⟨n, k _ _ e, r.mono (hid_seqs k ha)⟩, o.nd, fun b hb => by
      rcases List.mem_cons.mp hb with rfl | hb
      · exact ha'
      · exact (o.zs b hb).imp fun x e => k _ _ e⟩
theorem Ok.unhid {a : Addr} {h : Heap} (o : Ok (C.hid a) σ h) : Ok C σ h :=
  ⟨o.base, o.pin, fun p hp => (hid_free.mp (o.off p hp)).1, fun p hp => by obtain ⟨n, e, r⟩ := o.at_ p hp; exact ⟨n, e, r.mono unhid_seqs⟩, o.nd, fun b hb => o.zs b (List.mem_cons_of_mem _ hb)⟩

noncomputable def Ifs (C : Cx) (A : Around) (env : Env) (ρ : Rho) (σ : Sto) : List Expr → (Bool → Sto → Prop) → Prop
  | [], P => P true σ
  | [c], P => Bv C A env false ρ σ c P
  | _, _ => False

noncomputable def Comp (C : Cx) (A : Around) (env : Env) (t : Expr) (ifs : List Expr) (elt : Expr) (P : List D → Sto → Prop) (src : Src) : List D → List D → Rho → Sto → Prop
  | [], acc, _, σ => P acc σ
  | d :: ds, acc, ρ, σ => Asg C A env false ρ σ t d fun ρ₁ σ₁ => Ifs C A env ρ₁ σ₁ ifs fun b σ₂ =>
    if b then Ev C A env false ρ₁ σ₂ elt fun e σ₃ => InSt src σ₃ ∧ Comp C A env t ifs elt P src ds (acc ++ [e]) ρ₁ σ₃
    else InSt src σ₂ ∧ Comp C A env t ifs elt P src ds acc ρ₁ σ₂

theorem compLoop2 {prog : Program} {w : World} {R : Result → Shared → Prop} {elt target iter : Expr} {ifs : List Expr} {scope : Scope} {pos : Pos} {it acc : Value} (I : Nat → Shared → Prop)
    (turn : ∀ n s, I n s → wpAny (model prog w) A (pyNext it) (fun r s₁ => match r with
      | none => R (.ok .next) s₁
      | some v => wpAny (model prog w) A (letOwnedTupleGo target it v) (fun _ s₀ => wpAny (model prog w) A (assign target env v) (fun _ s₂ =>
          wpAny (model prog w) A (forIn ifs true fun c r => if r = true then do let ok ← isTrue c env (eval c env); pure (ForInStep.yield ok) else pure (ForInStep.yield r)) (fun ok s₃ =>
            if ok = true then wpAny (model prog w) A (eval elt env) (fun x s₄ =>
              wpAny (model prog w) A (call (.builtin "list.append") [acc, x]) (fun _ s₅ => ∃ m, m < n ∧ I m s₅) (notedBy (model prog w) A env fun e s' => R (.error e) s') s₄) (notedBy (model prog w) A env fun e s' => R (.error e) s') s₃
            else ∃ m, m < n ∧ I m s₃) (notedBy (model prog w) A env fun e s' => R (.error e) s') s₂) (notedBy (model prog w) A env fun e s' => R (.error e) s') s₀) (notedBy (model prog w) A env fun e s' => R (.error e) s') s₁) (notedBy (model prog w) A env fun e s' => R (.error e) s') s)
    (n : Nat) (h : I n s) : codeAny (model prog w) A (.compLoop (.ListComp elt [⟨target, iter, ifs, 0⟩] scope pos) 0 it acc env) R s := by
  refine codeAny_loop rfl I (fun n s hI => ?_) n h
  show wpAny _ A ((compTurn (.ListComp elt [⟨target, iter, ifs, 0⟩] scope pos) 0 it acc env).onRaise (fun x => do noteFrame x env; theTreesLotGoes x)) _ _ s
  refine wpAny_noted ?_
  rw [compTurn_list]
  refine wpAny_bind (wpAny_standAt (wpAny_bind (wpAny_mono (turn n s hI) (fun r s₁ h₁ => ?_) fun _ _ h' => h')))
  cases r with
  | none => exact wpAny_pure h₁
  | some v =>
    refine wpAny_bind (wpAny_mono h₁ (fun _ s₀ h₀ => ?_) fun _ _ h' => h')
    refine wpAny_bind (wpAny_mono h₀ (fun _ s₂ h₂ => wpAny_bind (wpAny_mono h₂ (fun ok s₃ h₃ => ?_) fun _ _ h' => h')) fun _ _ h' => h')
    cases ok with
    | false => exact wpAny_pure ⟨rfl, h₃⟩
    | true =>
      exact wpAny_bind (wpAny_bind (wpAny_mono h₃ (fun x s₄ h₄ => wpAny_bind (wpAny_mono h₄ (fun _ s₅ h₅ => wpAny_pure (wpAny_pure ⟨rfl, h₅⟩)) fun _ _ h' => h')) fun _ _ h' => h'))

theorem wp_ifs {ifs : List Expr} {P : Bool → Sto → Prop} (h : Ifs C A env ρ σ ifs P) (o : Ok C σ s.heap) (f : Fm C σ s.heap env false ρ) :
    wpAny C.M A (forIn ifs true fun c r => if r = true then do let ok ← isTrue c env (eval c env); pure (ForInStep.yield ok) else pure (ForInStep.yield r)) (fun b s' => ∃ σ', P b σ' ∧ Nx C σ s σ' s') E s := by
  match ifs, h with
  | [], h => exact wpAny_tests_nil ⟨σ, h, .refl o⟩
  | [c], h => exact wpAny_tests_one (Bv.run h s o f E)
  | _ :: _ :: _, h => exact h.elim

theorem lookup_map {α β : Type} {g : Str → α → β} {x : Str} : ∀ {l : List (Str × α)}, (l.map fun p => (p.1, g p.1 p.2)).lookup x = (l.lookup x).map (g x)
  | [] => rfl
  | (y, a) :: r => by
    simp only [List.map_cons, List.lookup]
    split
    · rename_i h; have := eq_of_beq h; subst this; rfl
    · exact lookup_map
noncomputable def relK (env : Env) (x : Str) (k : NameKind) : NameKind := if (k == .free && env.scope.kind == .function && env.kindOf x == some .cell) then .cell else k
theorem relabel_lookup {scope : Scope} {x : Str} : (relabel scope env).names.lookup x = (scope.names.lookup x).map (relK env x) := by
  have : (relabel scope env).names = scope.names.map fun p => (p.1, relK env p.1 p.2) := by
    simp only [relabel, relK]
    congr 1
    funext p
    obtain ⟨n, k⟩ := p
    dsimp only
    split <;> rfl
  rw [this]
  exact lookup_map
theorem upd_z {Dd : Addr} {h h' : Heap} (o : Ok C σ h) (hD : Dd ∈ C.Z) (fr : C.h₀.get? Dd = none) (fp : ∀ p ∈ C.pins, p.1 ≠ Dd) (hb : Heap.SameBut Dd h h') (hx : ∃ x, h'.get? Dd = some x) : Ok C σ h' ∧ Seqs h (C.V σ) h' (C.V σ) := by
  have sq : Seqs h (C.V σ) h' (C.V σ) := fun b x e n q => by
    have hne : b ≠ Dd := fun z => n (by subst z; simp [Cx.V, hD])
    exact ⟨(hb.2 b hne).trans e, n⟩
  refine ⟨⟨fun b x e => ?_, fun p hp => (hb.2 _ (fp p hp)).trans (o.pin p hp), o.off, fun p hp => ?_, o.nd, fun b hz => ?_⟩, sq⟩
  · have hne : b ≠ Dd := fun z => by subst z; rw [fr] at e; cases e
    exact (hb.2 b hne).trans (o.base b x e)
  · obtain ⟨n, e, r⟩ := o.at_ p hp
    have hne : p.1 ≠ Dd := fun z => (o.off p hp).2.2 (z ▸ hD)
    exact ⟨n, (hb.2 _ hne).trans e, r.mono sq⟩
  · by_cases hz' : b = Dd
    · subst hz'; exact hx
    · exact (o.zs b hz).imp fun x e => (hb.2 b hz').trans e

/-- the heart of a comprehension: the loop over the iterator I, the list at Dd -/
theorem comp_loop {target iter elt : Expr} {ifs : List Expr} {scope : Scope} {pos : Pos} {cenv : Env} {Dd I : Addr} {src : Src} {items : List D} {St : Nat → Heap → Sto → Prop} {P : List D → Sto → Prop} {ρc : Rho} {R : Result → Shared → Prop}
    (hsz : items.length ≤ sizeLine) (W : Wk C A I src items St) (o : Ok C σ s.heap) (f : Fm C σ s.heap cenv false ρc) (st : St 0 s.heap σ) (hin : InSt src σ) (hDI : Dd ≠ I) (frI : C.Free I) (hI : I ∉ σ.S) (hoI : ¬ Own cenv I)
    (hD : Dd ∈ C.Z) (fr : C.h₀.get? Dd = none) (fp : ∀ p ∈ C.pins, p.1 ≠ Dd) (hDL : ¬ Own cenv Dd) (hacc : s.heap.PlainList Dd #[])
    (h : Comp C A cenv target ifs elt P src items [] ρc σ)
    (hR : ∀ s' σ' acc ys ρ', P acc σ' → Ok C σ' s'.heap → Fm C σ' s'.heap cenv false ρ' → s'.heap.PlainList Dd ys → RepL s'.heap (C.V σ') ys.toList acc →
      (∀ a x, s.heap.get? a = some x → a ∉ σ.S → a ≠ cenv.locals → a ≠ Dd → a ≠ I → s'.heap.get? a = some x ∧ a ∉ σ'.S) → s'.gens = s.gens → s'.os = s.os → R (.ok .next) s') :
    codeAny C.M A (.compLoop (.ListComp elt [⟨target, iter, ifs, 0⟩] scope pos) 0 (.ref I) (.ref Dd) cenv) R s := by
  refine compLoop2 (fun n s' => ∃ k ρ' σ' acc ys, n = items.length - k ∧ k ≤ items.length ∧ St k s'.heap σ' ∧ InSt src σ' ∧ Comp C A cenv target ifs elt P src (items.drop k) acc ρ' σ' ∧
    Ok C σ' s'.heap ∧ Fm C σ' s'.heap cenv false ρ' ∧ I ∉ σ'.S ∧ s'.heap.PlainList Dd ys ∧ RepL s'.heap (C.V σ') ys.toList acc ∧ ys.size ≤ k ∧
    (∀ a x, s.heap.get? a = some x → a ∉ σ.S → a ≠ cenv.locals → a ≠ Dd → a ≠ I → s'.heap.get? a = some x ∧ a ∉ σ'.S) ∧ s'.gens = s.gens ∧ s'.os = s.os)
    ?_ (items.length - 0) ⟨0, ρc, σ, [], #[], rfl, Nat.zero_le _, st, hin, h, o, f, hI, hacc, .nil, Nat.zero_le _, fun a x e n _ _ _ => ⟨e, n⟩, rfl, rfl⟩
  rintro n s₃ ⟨k, ρ₃, σ₃, acc, ys, rfl, hk, st₃, in₃, t₃, o₃, f₃, hS₃, pl₃, ra₃, hys, kp₃, g₃, os₃⟩
  have stepI : ∀ s₄ : Shared, (∀ b o, b ≠ I → s₃.heap.get? b = some o → s₄.heap.get? b = some o) → Ok C σ₃ s₄.heap ∧ Seqs s₃.heap (C.V σ₃) s₄.heap (C.V σ₃) ∧ Fm C σ₃ s₄.heap cenv false ρ₃ := fun s₄ hb => by
    obtain ⟨a, b⟩ := upd_keep o₃ frI hS₃ hb (W.nf _ _ _ st₃)
    exact ⟨a, b, f₃.but hb hoI b⟩
  have hDS : ∀ {σ' : Sto} {h' : Heap}, Ok C σ' h' → Dd ∉ σ'.S := fun o' hm => by
    obtain ⟨p, hp, e⟩ := List.mem_map.mp hm
    exact (o'.off p hp).2.2 (e ▸ hD)
  by_cases hlt : k < items.length
  · have hd : items[k]? = some items[k] := by simp [hlt]
    rw [List.drop_eq_getElem_cons hlt] at t₃
    refine W.item k σ₃ s₃ _ _ _ hd st₃ o₃ in₃ fun v s₄ hv hb hg₄ hos₄ => ?_
    obtain ⟨o₄, sq₄, f₄⟩ := stepI s₄ hb
    obtain ⟨rv, st₄⟩ := hv o₄ sq₄
    refine W.go _ _ _ s₄ v _ _ st₄ ?_
    refine wpAny_mono (Asg.run t₃ s₄ v o₄ f₄ rv _) ?_ fun _ _ x => x
    rintro _ s₅ ⟨ρ₅, σ₅, ifs5, nz₅, f₅⟩
    refine wpAny_mono (wp_ifs ifs5 nz₅.ok f₅) ?_ fun _ _ x => x
    rintro b s₆ ⟨σ₆, p₆, n₆⟩
    obtain ⟨oI, eI⟩ := W.ex _ _ _ st₄
    obtain ⟨nD, eD₃⟩ := pl₃
    have eD₄ := hb _ _ hDI eD₃
    have l₅ := nz₅.le
    have eD₅ := (l₅ _ _ eD₄ (hDS o₄) fun w => hDL w.own).1
    have eI₅ := l₅ _ _ eI hS₃ fun w => hoI w.own
    have eD₆ := (n₆.le _ _ eD₅ (hDS nz₅.ok)).1
    have eI₆ := n₆.le _ _ eI₅.1 eI₅.2
    have sq₆ := (nz₅.seqs f₄).trans n₆.le.v
    have kp₆ : ∀ a x, s.heap.get? a = some x → a ∉ σ.S → a ≠ cenv.locals → a ≠ Dd → a ≠ I → s₆.heap.get? a = some x ∧ a ∉ σ₆.S := fun a x e n n1 n2 n3 => by
      have q3 := kp₃ a x e n n1 n2 n3
      have q4 := hb _ _ n3 q3.1
      have q5 := l₅ _ _ q4 q3.2 (fun w => w.elim n1 fun z => by cases z.1)
      exact n₆.le _ _ q5.1 q5.2
    cases b with
    | false =>
      simp only [Bool.false_eq_true, if_false] at p₆ ⊢
      exact ⟨items.length - (k + 1), by omega, k + 1, ρ₅, σ₆, acc, ys, rfl, hlt, W.frame _ _ _ _ _ st₄ (fun o e => by rw [eI] at e; cases e; exact eI₆.1) sq₆ n₆.ok p₆.1, p₆.1, p₆.2, n₆.ok, f₅.next n₆, eI₆.2, ⟨nD, eD₆⟩,
        ra₃.mono (sq₄.trans sq₆), Nat.le_succ_of_le hys, kp₆, (n₆.gens.trans nz₅.gens).trans (hg₄.trans g₃), (n₆.os.trans nz₅.os).trans (hos₄.trans os₃)⟩
    | true =>
      simp only [if_true] at p₆ ⊢
      refine wpAny_mono (p₆.run s₆ n₆.ok (f₅.next n₆) _) ?_ fun _ _ x => x
      rintro x s₇ ⟨e₇, σ₇, ⟨in₇, c₇⟩, r₇, n₇⟩
      have eD₇ := (n₇.le _ _ eD₆ (hDS n₆.ok)).1
      have eI₇ := n₇.le _ _ eI₆.1 eI₆.2
      refine wpAny_list_append_plain (items := ys) ⟨nD, eD₇⟩ (fun h₈ pl₈ hb₈ => ?_) (by omega)
      obtain ⟨o₈, sq₈⟩ := upd_z n₇.ok hD fr fp hb₈ (by obtain ⟨n, e⟩ := pl₈; exact ⟨_, e⟩)
      have sq₇ := sq₆.trans n₇.le.v
      have hb₈' : ∀ b o, b ≠ Dd → s₇.heap.get? b = some o → h₈.get? b = some o := fun b o hne e => (hb₈.2 b hne).trans e
      refine ⟨items.length - (k + 1), by omega, k + 1, ρ₅, σ₇, acc ++ [e₇], ys.push x, rfl, hlt, W.frame _ _ _ _ _ st₄ (fun o e => by rw [eI] at e; cases e; exact hb₈' _ _ (Ne.symm hDI) eI₇.1) (sq₇.trans sq₈) o₈ in₇, in₇, c₇, o₈,
        ((f₅.next n₆).next n₇).but hb₈' hDL sq₈, eI₇.2, pl₈, ?_, by rw [Array.size_push]; omega, fun a x e n n1 n2 n3 => ?_, ((n₇.gens.trans n₆.gens).trans nz₅.gens).trans (hg₄.trans g₃), ((n₇.os.trans n₆.os).trans nz₅.os).trans (hos₄.trans os₃)⟩
      · rw [Array.toList_push]
        exact (ra₃.mono ((sq₄.trans sq₇).trans sq₈)).append (.cons (r₇.mono sq₈) .nil)
      · have q6 := kp₆ a x e n n1 n2 n3
        have q7 := n₇.le _ _ q6.1 q6.2
        exact ⟨hb₈' _ _ n2 q7.1, q7.2⟩
  · have hk' : k = items.length := by omega
    subst hk'
    rw [List.drop_length] at t₃
    refine W.done σ₃ s₃ _ _ st₃ o₃ in₃ fun s₄ hb hg₄ hos₄ => ?_
    obtain ⟨o₄, sq₄, f₄⟩ := stepI s₄ hb
    refine hR s₄ σ₃ acc ys ρ₃ t₃ o₄ f₄ ?_ (ra₃.mono sq₄) (fun a x e n n1 n2 n3 => ?_) (hg₄.trans g₃) (hos₄.trans os₃)
    · obtain ⟨n, e⟩ := pl₃; exact ⟨n, hb _ _ hDI e⟩
    · have := kp₃ a x e n n1 n2 n3; exact ⟨hb _ _ n3 this.1, this.2⟩
end
end Mine
namespace Mine

noncomputable def closFrom (env : Env) : List (Str × NameKind) → List (Str × Addr) → List (Str × Addr)
  | [], cs => cs
  | (n, k) :: r, cs => closFrom env r (if k == .free then (n, (env.cells.lookup n).getD 0) :: cs else cs)
noncomputable def frees (env : Env) (scope : Scope) : Bool := scope.names.all fun p => p.2 != .free || (env.cells.lookup p.1).isSome
theorem closureFor_eq {scope : Scope} {env : Env} (h : frees env scope = true) : closureFor scope env = pure (closFrom env scope.names []) := by
  have key : ∀ (l : List (Str × NameKind)) (cs : List (Str × Addr)), (l.all fun p => p.2 != .free || (env.cells.lookup p.1).isSome) = true →
      (forIn l cs fun (x : Str × NameKind) r => match x with | (name, kind) => if kind == .free then do let c ← cellOf env name; pure (ForInStep.yield ((name, c) :: r)) else pure (ForInStep.yield r) : Sem (List (Str × Addr))) = pure (closFrom env l cs) := by
    intro l
    induction l with
    | nil => intro cs _; rfl
    | cons p r ih =>
      obtain ⟨n, k⟩ := p
      intro cs hall
      simp only [List.all_cons, Bool.and_eq_true] at hall
      rw [List.forIn_cons, closFrom]
      by_cases hk : (k == .free) = true
      · have hl : ∃ c, env.cells.lookup n = some c := by
          have := hall.1
          simp only [bne, hk, Bool.not_true, Bool.false_or] at this
          exact Option.isSome_iff_exists.mp this
        obtain ⟨c, hc⟩ := hl
        simp only [hk, if_true, hc, Option.getD_some]
        have : cellOf env n = pure c := by unfold cellOf; rw [hc]
        rw [this]
        exact ih _ hall.2
      · simp only [hk]
        exact ih _ hall.2
  simp only [closureFor]
  rw [show (forIn scope.names [] _ : Sem (List (Str × Addr))) = _ from key scope.names [] h]
  rfl

theorem closFrom_lookup {env : Env} {x : Str} {c : Addr} : ∀ (l : List (Str × NameKind)) (cs : List (Str × Addr)), (l.all fun p => p.2 != .free || (env.cells.lookup p.1).isSome) = true →
    (∀ y c, cs.lookup y = some c → env.cells.lookup y = some c) → (closFrom env l cs).lookup x = some c → env.cells.lookup x = some c
  | [], cs, _, h, e => h x c e
  | (n, k) :: r, cs, ha, h, e => by
    simp only [List.all_cons, Bool.and_eq_true] at ha
    refine closFrom_lookup r _ ha.2 ?_ e
    intro y c' e'
    split at e'
    · rename_i hk
      simp only [bne, hk, Bool.not_true, Bool.false_or] at ha
      obtain ⟨c₀, h₀⟩ := Option.isSome_iff_exists.mp ha.1
      simp only [List.lookup] at e'
      split at e'
      · rename_i hy; have := eq_of_beq hy; subst this
        rw [h₀] at e' ⊢; simpa using e'
      · exact h y c' e'
    · exact h y c' e'
theorem closFrom_acc {env : Env} {x : Str} : ∀ (l : List (Str × NameKind)) (cs : List (Str × Addr)), (cs.lookup x).isSome = true → ((closFrom env l cs).lookup x).isSome = true
  | [], _, h => h
  | (n, k) :: r, cs, h => by
    refine closFrom_acc r _ ?_
    split
    · simp only [List.lookup]; split <;> simp_all
    · exact h
theorem closFrom_some {env : Env} {x : Str} : ∀ (l : List (Str × NameKind)) (cs : List (Str × Addr)), (x, NameKind.free) ∈ l → ((closFrom env l cs).lookup x).isSome = true
  | (n, k) :: r, cs, h => by
    rcases List.mem_cons.mp h with e | h
    · cases e
      refine closFrom_acc r _ ?_
      rw [if_pos (by decide)]
      simp [List.lookup]
    · exact closFrom_some r _ h

/-- the names that a comprehension's block sees of the frame around it -/
noncomputable def seen (scope : Scope) (env : Env) (ρ : Rho) : Rho := ρ.filter fun p => scope.names.lookup p.1 == some .free && env.kindOf p.1 == some .cell
theorem seen_lookup {scope : Scope} {env : Env} {x : Str} {d : D} : ∀ {ρ : Rho}, (seen scope env ρ).lookup x = some d → ρ.lookup x = some d ∧ scope.names.lookup x = some .free ∧ env.kindOf x = some .cell
  | [], e => by simp [seen, List.lookup] at e
  | (y, f) :: r, e => by
    unfold seen at e
    rw [List.filter_cons] at e
    split at e
    · rename_i hk
      simp only [List.lookup] at e ⊢
      split at e
      · rename_i hy
        have := eq_of_beq hy; subst this
        simp only [Bool.and_eq_true, beq_iff_eq] at hk
        exact ⟨e, hk⟩
      · rename_i hy
        exact seen_lookup e
    · rename_i hk
      have q := seen_lookup (ρ := r) e
      refine ⟨?_, q.2⟩
      simp only [List.lookup]
      split
      · rename_i hy
        have := eq_of_beq hy; subst this
        exact absurd (by simp [q.2.1, q.2.2]) hk
      · exact q.1

section
variable {C : Cx} {A : Around} {env : Env} {wr : Bool} {ρ : Rho} {σ : Sto} {E : Value → Shared → Prop} {s : Shared}

noncomputable def cscope (scope : Scope) : Bool := scope.kind == .function && (scope.names.all fun p => p.2 != .cell && (p.2 != .local || scope.names.lookup p.1 == some .local))

noncomputable abbrev cenvOf (scope : Scope) (Lc : Addr) (env : Env) : Env := compEnvC scope (closFrom env scope.names []) Lc env

theorem comp_core {target iter elt : Expr} {ifs : List Expr} {scope : Scope} {pos : Pos} {I : Addr} {src : Src} {items : List D} {St : List Addr → Nat → Heap → Sto → Prop} {P : List D → Sto → Prop} {RR : Value → Addr → Result → Shared → Prop} {s₁ s₂ : Shared}
    (hsz : items.length ≤ sizeLine) (hsc : cscope scope = true) (hfr : frees env scope = true)
    (o₁ : Ok C σ s₁.heap) (f₁ : Fm C σ s₁.heap env wr ρ) (W : ∀ Zs, Wk (C.withZ Zs) A I src items (St Zs))
    (st : ∀ Zs h'', (∀ o, s₂.heap.get? I = some o → h''.get? I = some o) → Seqs s₁.heap (C.V σ) h'' ((C.withZ Zs).V σ) → St Zs 0 h'' σ)
    (hI : s₁.heap.get? I = none) (k₁₂ : ∀ a o, s₁.heap.get? a = some o → s₂.heap.get? a = some o) (hin : InSt src σ)
    (h : ∀ Dd Lc, Comp (C.hid Dd) A (cenvOf scope Lc env) target ifs elt P src items [] (seen scope env ρ) σ)
    (hRR : ∀ Dd Lc s' σ' ds m, P ds σ' → s₁.heap.get? Dd = none → s₁.heap.get? Lc = none → Dd ≠ Lc → I ≠ Lc → s'.heap.Ns Lc m → Ok C σ' s'.heap → Rep s'.heap (C.V σ') (.ref Dd) (.list ds) → Lc ∉ σ'.S → C.Free Lc →
      (∀ a x, s₁.heap.get? a = some x → a ∉ σ.S → s'.heap.get? a = some x ∧ a ∉ σ'.S) → s'.gens = s₂.gens → s'.os = s₂.os → RR (.ref Dd) Lc (.ok .next) s') :
    wpAny C.M A (newList []) (fun acc s₃ => wpAny C.M A (newFunctionEnv scope env.globals (closFrom env scope.names []) [] env.qual none .none (some env)) (fun cenv s₄ =>
      codeAny C.M A (.compStart (.ListComp elt [⟨target, iter, ifs, 0⟩] scope pos) 0 (.ref I) acc { cenv with scope := relabel scope env }) (RR acc cenv.locals) s₄) E s₃) E s₂ := by
  simp only [cscope, Bool.and_eq_true, beq_iff_eq, List.all_eq_true] at hsc
  obtain ⟨hkind, hsc⟩ := hsc
  have hcell : ∀ y ∈ scope.names, y.2 ≠ .cell := fun y hy z => by have := (hsc y hy).1; rw [z] at this; exact absurd this (by decide)
  have o₂ : Ok C σ s₂.heap := o₁.keeps k₁₂
  have f₂ : Fm C σ s₂.heap env wr ρ := f₁.le fun a o e n => ⟨k₁₂ a o e, n⟩
  have hclL : ∀ x c, (closFrom env scope.names []).lookup x = some c → env.cells.lookup x = some c := fun x c e => closFrom_lookup scope.names [] hfr (fun _ _ q => by simp [List.lookup] at q) e
  refine wpAny_newList (wpAny_newFunctionEnv hcell (by intro y hy; simp at hy) (fun h₁ hns₁ hsb₁ => ?_) hkind)
  dsimp only at hns₁ hsb₁ ⊢
  generalize hH2 : s₂.heap.push { cls := .type "list", dict := none, data := .seq ([] : List Value).toArray } = H2 at hns₁ hsb₁ ⊢
  have hC : H2.objs.size = s₂.heap.objs.size + 1 := by rw [← hH2, Heap.size_push]
  have hDC : s₂.heap.objs.size ≠ H2.objs.size := by rw [hC]; exact Nat.ne_of_lt (Nat.lt_succ_self _)
  have below : ∀ b, b < s₂.heap.objs.size → b ≠ H2.objs.size ∧ b ≠ s₂.heap.objs.size := fun b hb => ⟨by rw [hC]; exact Nat.ne_of_lt (Nat.lt_succ_of_lt hb), Nat.ne_of_lt hb⟩
  have old : ∀ b o, s₂.heap.get? b = some o → h₁.get? b = some o := fun b o e => hsb₁.extBut b o (below b (Heap.lt_size e)).1 (Heap.get?_push_of_some _ (hH2 ▸ Heap.get?_push_of_some _ e))
  have eacc : h₁.get? s₂.heap.objs.size = some { cls := .type "list", dict := none, data := .seq ([] : List Value).toArray } := hsb₁.extBut _ _ hDC (Heap.get?_push_of_some _ (hH2 ▸ Heap.get?_push_size _ rfl))
  have fresh₂ : ∀ a, s₂.heap.objs.size ≤ a → s₂.heap.get? a = none := fun a ha => by
    cases e : s₂.heap.get? a with
    | none => rfl
    | some o' => exact absurd (Heap.lt_size e) (Nat.not_lt.mpr ha)
  have fresh₁ : ∀ a, s₂.heap.get? a = none → s₁.heap.get? a = none := fun a ha => by
    cases e : s₁.heap.get? a with
    | none => rfl
    | some o' => rw [k₁₂ _ _ e] at ha; cases ha
  have eD := fresh₂ _ (Nat.le_refl _)
  have eL := fresh₂ H2.objs.size (by rw [hC]; exact Nat.le_succ _)
  have WI := W ((s₂.heap.objs.size) :: C.Z)
  have sqh : Seqs s₁.heap (C.V σ) h₁ ((C.hid s₂.heap.objs.size).V σ) := hid_seqs (fun b o e => old b o (k₁₂ b o e)) (fresh₁ _ eD)
  have st₁ := st (s₂.heap.objs.size :: C.Z) h₁ (fun o e => old _ _ e) sqh
  obtain ⟨oI, eI₁⟩ := WI.ex _ _ _ (st (s₂.heap.objs.size :: C.Z) h₁ (fun o e => old _ _ e) sqh)
  have o₁h : Ok (C.hid s₂.heap.objs.size) σ h₁ := o₂.hid old eD ⟨_, eacc⟩
  obtain ⟨frI, hIS⟩ := free_of_none o₁ hI
  have hoI := not_own_of_none f₁ hI
  have hoD := not_own_of_none f₂ eD
  have hoL := not_own_of_none f₂ eL
  obtain ⟨frL, hLS⟩ := free_of_none o₂ eL
  obtain ⟨frD, hDS⟩ := free_of_none o₂ eD
  have ownc : ∀ a, a ≠ H2.objs.size → ¬ Own env a → ¬ Own (cenvOf scope H2.objs.size env) a := fun a n no => by
    rintro (z | ⟨x, hx⟩)
    · exact n z
    · exact no (.inr ⟨x, hclL x a hx⟩)
  by_cases hIex : ∃ o, s₂.heap.get? I = some o
  case neg =>
    -- the iterator lies in the heap where it was made
    exfalso
    have e2 : s₂.heap.get? I = none := by cases q : s₂.heap.get? I with | none => rfl | some o => exact absurd ⟨o, q⟩ hIex
    have st2 := st C.Z s₁.heap (fun o e => by rw [e2] at e; cases e) (fun b o e n _ => ⟨e, n⟩)
    obtain ⟨o, e⟩ := (W C.Z).ex _ _ _ st2
    rw [hI] at e; cases e
  obtain ⟨oI₂, eI₂⟩ := hIex
  have hIL : I ≠ H2.objs.size := (below I (Heap.lt_size eI₂)).1
  have hID : I ≠ s₂.heap.objs.size := (below I (Heap.lt_size eI₂)).2
  have fc : Fm (C.hid s₂.heap.objs.size) σ h₁ (cenvOf scope H2.objs.size env) false (seen scope env ρ) := by
    refine ⟨⟨_, hns₁, fun x d e => ?_⟩, hkind, f₁.glob, f₁.blt, ⟨hid_free.mpr ⟨frL, Ne.symm hDC⟩, hLS⟩, fun x c e => ?_, fun x y c e e' => f₁.apart x y c (hclL x c e) (hclL y c e')⟩
    · obtain ⟨hr, hf, hk⟩ := seen_lookup e
      obtain ⟨ml, _, hh⟩ := f₁.has
      obtain ⟨v, rv, ⟨k, _⟩ | ⟨_, c, hl, oc, ec, dc⟩⟩ := hh x d hr
      · rw [hk] at k; cases k
      · refine ⟨v, rv.mono sqh, .inr ⟨.inl ?_, c, ?_, oc, old _ _ (k₁₂ _ _ ec), dc⟩⟩
        · show (relabel scope env).names.lookup x = some .cell
          rw [relabel_lookup, hf]
          simp [relK, f₁.kind, hk]
        · have hm := mem_lookup hf
          obtain ⟨c', hc'⟩ := Option.isSome_iff_exists.mp (closFrom_some (env := env) scope.names [] hm)
          have := hclL x c' hc'
          rw [hl] at this; cases this; exact hc'
    · obtain ⟨⟨v, oc, ec, dc⟩, _, n2, _⟩ := f₂.cells x c (hclL x c e)
      refine ⟨⟨v, oc, old _ _ ec, dc⟩, ?_, n2, ?_⟩
      · intro z
        have : c = H2.objs.size := z
        rw [this, eL] at ec; cases ec
      · intro z; cases z
  have loop : ∀ s₃ : Shared, s₃ = { s₂ with heap := h₁, toks := s₂.toks + ([] : List (Str × Value)).length } →
      codeAny C.M A (.compLoop (.ListComp elt [⟨target, iter, ifs, 0⟩] scope pos) 0 (.ref I) (.ref s₂.heap.objs.size) (cenvOf scope H2.objs.size env)) (RR (.ref s₂.heap.objs.size) H2.objs.size) s₃ := by
    rintro s₃ rfl
    refine comp_loop (C := C.hid s₂.heap.objs.size) (s := { s₂ with heap := h₁, toks := s₂.toks + ([] : List (Str × Value)).length }) (cenv := cenvOf scope H2.objs.size env) (Dd := s₂.heap.objs.size) hsz WI o₁h fc st₁ hin (Ne.symm hID) (hid_free.mpr ⟨frI, hID⟩) hIS (ownc I hIL hoI)
      (List.mem_cons_self ..) frD.1 frD.2.1 (ownc _ hDC hoD) ⟨_, eacc⟩ (h _ _) ?_
    intro s' σ' acc ys ρ' p o' f' pl ra kp g os
    obtain ⟨n, ey⟩ := pl
    obtain ⟨ml, hn', _⟩ := f'.has
    have hDS' : s₂.heap.objs.size ∉ C.V σ' := by
      simp only [Cx.V, List.mem_append, not_or]
      refine ⟨fun hm => ?_, frD.2.2⟩
      obtain ⟨p, hp, e⟩ := List.mem_map.mp hm
      exact (hid_free.mp (o'.off p hp)).2 e
    refine hRR _ _ s' σ' acc ml p (fresh₁ _ eD) (fresh₁ _ eL) hDC hIL hn' o'.unhid (.list ⟨_, ey, rfl, n, by simp⟩ hDS' (ra.mono unhid_seqs)) f'.offL.2 frL (fun a x e nS => ?_) g os
    exact kp a x (old _ _ (k₁₂ _ _ e)) nS (fun z => by have : a = H2.objs.size := z; rw [this, fresh₁ _ eL] at e; cases e) (fun z => by rw [z, fresh₁ _ eD] at e; cases e) fun z => by rw [z, hI] at e; cases e
  exact codeAny_compStart_list (loop _ rfl) ((W (s₂.heap.objs.size :: C.Z)).self 0 σ _ _ _ st₁ (loop _ rfl))

theorem ev_listcomp {target iter elt : Expr} {ifs : List Expr} {scope : Scope} {pos : Pos} {P : D → Sto → Prop}
    (h : Ev C A env wr ρ σ iter fun d σ₁ => ∃ src items, Itr C A d σ₁ src items ∧ InSt src σ₁ ∧ items.length ≤ sizeLine ∧
      ∀ Dd Lc, Comp (C.hid Dd) A (cenvOf scope Lc env) target ifs elt (fun ds σ' => P (.list ds) σ') src items [] (seen scope env ρ) σ₁)
    (hsc : cscope scope = true := by rfl) (hfr : frees env scope = true := by rfl) (hs : ∀ x, foldedSetIterable iter env x = pure x := by intro _; rfl) :
    Ev C A env wr ρ σ (.ListComp elt [⟨target, iter, ifs, 0⟩] scope pos) P := by
  constructor
  intro s o f E
  have hsc' := hsc
  simp only [cscope, Bool.and_eq_true, beq_iff_eq, List.all_eq_true] at hsc'
  have hnames : ∀ x ∈ scope.names, x.2 = .local → scope.names.lookup x.1 = some .local := fun x hx hl => by
    have := (hsc'.2 x hx).2
    rw [hl] at this
    simpa using this
  show wpAny C.M A (comprehension (.ListComp elt [⟨target, iter, ifs, 0⟩] scope pos) scope env _ (newList []) false (eval iter env)) _ E s
  refine wpAny_comprehension_free (use := none) rfl hs (closureFor_eq hfr) hsc'.1 hnames (wpAny_mono (h.run s o f E) ?_ fun _ _ x => x)
  rintro v s₁ ⟨d, σ₁, ⟨src, items, it, hin, hsz, cp⟩, r, n₁⟩
  refine it s₁ v n₁.ok r _ _ fun I St s₂ W st hI hk hg hos => ?_
  refine comp_core (RR := fun acc Cc => compPost C.M A E none (Gets C σ s P) acc Cc) (s₁ := s₁) hsz hsc hfr n₁.ok (f.next n₁) W st hI hk hin cp ?_
  intro Dd Lc s' σ' ds m p hD hL hDL hIL hns o' r' hLS frL kp g os
  refine ⟨m, hns, fun h' hb => ?_⟩
  obtain ⟨o'', sq⟩ := store_keep o' frL hLS hb fun x e z => by
    obtain ⟨oL, es, ep, ho, hd, _⟩ := hns
    rw [ho] at e; cases e
    rcases z with ⟨_, _, z⟩ | ⟨⟨_, z⟩, _⟩ <;> rw [hd] at z <;> cases z
  refine ⟨_, _, p, r'.mono sq, n₁.trans ⟨o'', fun a x e n => ?_, g.trans hg, os.trans hos⟩⟩
  have := kp a x e n
  exact ⟨(hb.2 a fun z => by rw [z, hL] at e; cases e).trans this.1, this.2⟩

end
end Mine
namespace Mine

section
variable {C : Cx} {A : Around} {env : Env} {wr : Bool} {ρ : Rho} {σ : Sto} {E : Value → Shared → Prop} {s : Shared} {P : D → Sto → Prop}

-- ints
theorem op_add_int {a b : Int} (h : P (.int (a + b)) σ) : Op2 C A (binaryOp .Add) (.int a) (.int b) σ P := by
  constructor; rintro s _ _ o ⟨⟩ ⟨⟩ E; exact add_int ⟨_, _, h, .int _ _, nx_toks o _⟩
theorem op_fdiv_int {a b : Int} (h0 : 0 < b) (h1 : b < 1073741824) (h : P (.int (a / b)) σ) : Op2 C A (binaryOp .FloorDiv) (.int a) (.int b) σ P := by
  constructor; rintro s _ _ o ⟨⟩ ⟨⟩ E
  refine floordiv_int (by omega) ⟨_, _, ?_, .int _ _, nx_toks o _⟩ (Or.inl (PyProof.noPylong_small (by omega)))
  rw [Int.fdiv_eq_ediv_of_nonneg _ (Int.le_of_lt h0)]; exact h
theorem op_mod_int {a b : Int} (h0 : 0 < b) (h : P (.int (a % b)) σ) : Op2 C A (binaryOp .Mod) (.int a) (.int b) σ P := by
  constructor; rintro s _ _ o ⟨⟩ ⟨⟩ E
  refine mod_int' (by omega) ⟨_, _, ?_, .int _ _, nx_toks o _⟩
  rw [Int.fmod_eq_emod_of_nonneg _ (Int.le_of_lt h0)]; exact h
theorem op_pow_int {a n : Int} (hn : 0 ≤ n) (hsz : (Builtin.Int.intBits a : Int) * n ≤ 2 ^ 27) (h : P (.int (a ^ n.toNat)) σ) : Op2 C A (binaryOp .Pow) (.int a) (.int n) σ P := by
  constructor; rintro s _ _ o ⟨⟩ ⟨⟩ E; exact pow_int hn hsz ⟨_, _, h, .int _ _, nx_toks o _⟩
theorem op_eq_int {a b : Int} (h : P (.bool (a == b)) σ) : Op2 C A (compareOp .Eq) (.int a) (.int b) σ P := by
  constructor; rintro s _ _ o ⟨⟩ ⟨⟩ E; exact PySem.P.eq_int ⟨_, _, h, .bool _, .refl o⟩
theorem op_ne_int {a b : Int} (h : P (.bool (a != b)) σ) : Op2 C A (compareOp .NotEq) (.int a) (.int b) σ P := by
  constructor; rintro s _ _ o ⟨⟩ ⟨⟩ E; exact PySem.P.ne_int ⟨_, _, h, .bool _, .refl o⟩
theorem op_le_int {a b : Int} (h : P (.bool (decide (a ≤ b))) σ) : Op2 C A (compareOp .LtE) (.int a) (.int b) σ P := by
  constructor; rintro s _ _ o ⟨⟩ ⟨⟩ E; exact PySem.P.le_int ⟨_, _, h, .bool _, .refl o⟩
theorem tru_int {a : Int} {P : Bool → Sto → Prop} (h : P (a != 0) σ) : Tru C A (.int a) σ P := by
  constructor; rintro s _ o ⟨⟩ E; exact PySem.P.truthy_int ⟨_, h, .refl o⟩
theorem tru_bool {b : Bool} {P : Bool → Sto → Prop} (h : P b σ) : Tru C A (.bool b) σ P := by
  constructor; rintro s _ o ⟨⟩ E; exact wpAny_truthy_bool ⟨_, h, .refl o⟩
theorem tru_none {P : Bool → Sto → Prop} (h : P false σ) : Tru C A .none σ P := by
  constructor; rintro s _ o ⟨⟩ E; exact truthy_none ⟨_, h, .refl o⟩
end
end Mine
namespace Mine

section
variable {C : Cx} {A : Around} {env : Env} {wr : Bool} {ρ : Rho} {σ : Sto} {E : Value → Shared → Prop} {s : Shared} {P : D → Sto → Prop}

theorem nx_push (o : Ok C σ s.heap) (x : Obj) : Nx C σ s σ { s with heap := s.heap.push x } := Nx.of_keeps o fun _ _ e => Heap.get?_push_of_some _ e
theorem size_notin (o : Ok C σ s.heap) {a : Addr} (ha : s.heap.objs.size ≤ a) : a ∉ C.V σ := by
  obtain ⟨f, n⟩ := free_of_size o ha
  simp only [Cx.V, List.mem_append, not_or]
  exact ⟨n, f.2.2⟩
theorem rep_list (o : Ok C σ s.heap) {vs : List Value} {ds : List D} (r : RepL s.heap (C.V σ) vs ds) : Rep (s.heap.push { cls := .type "list", data := .seq vs.toArray }) (C.V σ) (.ref s.heap.objs.size) (.list ds) :=
  .list ⟨_, Heap.get?_push_size _ rfl, rfl, _, rfl⟩ (size_notin o (Nat.le_refl _)) (r.mono fun _ _ e n _ => ⟨Heap.get?_push_of_some _ e, n⟩)
theorem rep_tuple (o : Ok C σ s.heap) {vs : List Value} {ds : List D} (r : RepL s.heap (C.V σ) vs ds) : Rep (s.heap.push { cls := .type "tuple", data := .seq vs.toArray }) (C.V σ) (.ref s.heap.objs.size) (.tuple ds) :=
  .tuple ⟨_, Heap.get?_push_size _ rfl, rfl, _, rfl⟩ (size_notin o (Nat.le_refl _)) (r.mono fun _ _ e n _ => ⟨Heap.get?_push_of_some _ e, n⟩)

theorem ev_list {es : List Expr} {pos : Pos} (h : EvL C A env wr ρ σ es fun ds σ₁ => ds.length ≤ sizeLine ∧ P (.list ds) σ₁) (hs : noStar es = true := by rfl) : Ev C A env wr ρ σ (.List es pos) P := by
  constructor
  intro s o f E
  refine List_ (wpAny_mono (wp_spliced hs h o f) ?_ fun _ _ x => x)
  rintro vs s₁ ⟨ds, σ₁, ⟨hsz, p⟩, r, n₁⟩
  exact wpAny_newList ⟨_, _, p, rep_list n₁.ok r, n₁.trans (nx_push n₁.ok _)⟩ (by rw [r.length]; exact hsz)
theorem ev_tuple {es : List Expr} {k : Nat} {pos : Pos} (h : EvL C A env wr ρ σ es fun ds σ₁ => ds.length ≤ sizeLine ∧ P (.tuple ds) σ₁) (hs : noStar es = true := by rfl) : Ev C A env wr ρ σ (.Tuple es k pos) P := by
  constructor
  intro s o f E
  refine Tuple_ (wpAny_mono (wp_spliced hs h o f) ?_ fun _ _ x => x)
  rintro vs s₁ ⟨ds, σ₁, ⟨hsz, p⟩, r, n₁⟩
  exact wpAny_newTuple ⟨_, _, p, rep_tuple n₁.ok r, n₁.trans (nx_push n₁.ok _)⟩ (by rw [r.length]; exact hsz)

theorem op_add_list {ds es : List D} (hsz : ds.length + es.length ≤ sizeLine) (h : P (.list (ds ++ es)) σ) : Op2 C A (binaryOp .Add) (.list ds) (.list es) σ P := by
  constructor
  rintro s va vb o ra rb E
  cases ra with
  | list hl na rl =>
    cases rb with
    | list hb nb rb =>
      rename_i a vs b ws
      obtain ⟨⟨cls, dd, data, sl⟩, ho, hc, n, hd⟩ := id hl
      obtain ⟨⟨cls2, dd2, data2, sl2⟩, ho2, hc2, n2, hd2⟩ := id hb
      simp only at hc hd hc2 hd2
      subst hc hd hc2 hd2
      have e : vs.toArray ++ ws.toArray = (vs ++ ws).toArray := by simp
      refine concat_meets ⟨_, ho, rfl⟩ ⟨_, ho2, rfl⟩ noFill_list_add seq_list_add PySem.F.slot_list_add PySem.F.entry_list_add (PySem.F.args_list_add_2 _ _)
        (list_addW a b vs.toArray ws.toArray n n2 dd dd2 sl sl2 (by simpa [rl.length, rb.length] using hsz)) ⟨ho, ho2, ?_⟩
      rw [e]
      exact ⟨_, _, h, rep_list o (rl.append rb), nx_push o _⟩

/-- what indexes a built-in container -/
noncomputable def BT (d : D) : Prop := (∃ ds, d = .list ds) ∨ (∃ ds, d = .tuple ds) ∨ (∃ x, d = .str x) ∨ (∃ b, d = .bytes b)
theorem bt_type {v : Value} {d : D} {h : Heap} {V : List Addr} (r : Rep h V v d) (b : BT d) (s : Shared) (hs : s.heap = h) : ∃ T id, typeLookup (.type T) "__getitem__" = pure (some (.builtin id)) ∧ s.TypeIs v T := by
  subst hs
  rcases b with ⟨_, rfl⟩ | ⟨_, rfl⟩ | ⟨_, rfl⟩ | ⟨_, rfl⟩
  · cases r with | list hl _ _ => exact ⟨"list", _, slot_list_getitem.lookup, hl.typeIs⟩
  · cases r with | tuple hl _ _ => exact ⟨"tuple", _, PySem.F.slot_tuple_getitem.lookup, hl.typeIs⟩
  · cases r; exact ⟨"str", _, PySem.F.slot_str_getitem.lookup, typeIs_str _ _ _⟩
  · cases r; exact ⟨"bytes", _, FB.slot_bytes_getitem.lookup, typeIs_bytes _ _ _⟩

theorem subscripted_of (slice : Expr) (o i : Value) : ∃ l, subscripted slice false o i = operate l (getItem o i) := by
  cases slice with
  | Slice lo hi st p => cases st <;> exact ⟨_, rfl⟩
  | _ => exact ⟨_, rfl⟩
theorem wp_subscript {prog : Program} {w : World} {value slice : Expr} {pos : Pos} {Q : Value → Shared → Prop}
    (h : wpAny (model prog w) A (eval value env) (fun o s₁ => wpAny (model prog w) A (eval slice env) (fun i s₂ => (∃ T id, typeLookup (.type T) "__getitem__" = pure (some (.builtin id)) ∧ s₂.TypeIs o T) ∧ wpAny (model prog w) A (getItem o i) Q E s₂) E s₁) E s) :
    wpAny (model prog w) A (eval (.Subscript value slice pos) env) Q E s := by
  rw [eval_Subscript]
  refine wpAny_bind (wpAny_mono h (fun o s₁ h₁ => wpAny_bind (wpAny_holding (wpAny_mono h₁ (fun i s₂ h₂ => wpAny_bind (wpAny_standAt ?_)) fun _ _ x => x))) fun _ _ x => x)
  obtain ⟨⟨T, id, hl, hT⟩, h₂⟩ := h₂
  obtain ⟨l, hl'⟩ := subscripted_of slice o i
  have fin : wpAny (model prog w) A (operate l (getItem o i)) (fun r s₃ => wpAny (model prog w) A (letTemporaryGo value o r >>= fun _ => pure r) Q E s₃) E s₂ :=
    wpAny_operating (wpAny_mono h₂ (fun r s₃ h₃ => wpAny_bind (wpAny_letTemporaryGo (wpAny_pure h₃))) fun _ _ x => x)
  have fin' : wpAny (model prog w) A (subscripted slice false o i) (fun r s₃ => wpAny (model prog w) A (letTemporaryGo value o r >>= fun _ => pure r) Q E s₃) E s₂ := by rw [hl']; exact fin
  first
    | (refine wpAny_bind ?_
       rw [getitemInPython_of_ne hT.not_modules]
       refine wpAny_bind (wpAny_specialOf hT hl ?_)
       first
         | exact wpAny_pure (wpAny_bind fin')
         | exact wpAny_bind (wpAny_pure (wpAny_bind fin'))
         | exact wpAny_bind fin')
    | (refine wpAny_bind (wpAny_specialOf hT hl ?_)
       first
         | exact wpAny_bind (wpAny_pure (wpAny_bind fin'))
         | exact wpAny_bind fin')

theorem ev_sub {value slice : Expr} {pos : Pos} (h : Ev C A env wr ρ σ value fun d σ₁ => Ev C A env wr ρ σ₁ slice fun i σ₂ => BT d ∧ Op2 C A getItem d i σ₂ P) : Ev C A env wr ρ σ (.Subscript value slice pos) P := by
  constructor
  intro s o f E
  refine wp_subscript (wpAny_mono (h.run s o f E) ?_ fun _ _ x => x)
  rintro v s₁ ⟨d, σ₁, p₁, r₁, n₁⟩
  refine wpAny_mono (p₁.run s₁ n₁.ok (f.next n₁) E) ?_ fun _ _ x => x
  rintro i s₂ ⟨e, σ₂, ⟨bt, p₂⟩, r₂, n₂⟩
  have r₁' := r₁.next n₂
  exact ⟨bt_type r₁' bt s₂ rfl, wpAny_mono (p₂.run s₂ v i n₂.ok r₁' r₂ E) (fun _ _ g => Gets.next (n₁.trans n₂) g) fun _ _ x => x⟩

theorem bt_list {ds : List D} : BT (.list ds) := .inl ⟨_, rfl⟩
theorem bt_tuple {ds : List D} : BT (.tuple ds) := .inr (.inl ⟨_, rfl⟩)
theorem bt_str {x : Str} : BT (.str x) := .inr (.inr (.inl ⟨_, rfl⟩))
theorem bt_bytes {x : Array UInt8} : BT (.bytes x) := .inr (.inr (.inr ⟨_, rfl⟩))

theorem op_item_list {ds : List D} {k : Int} {d : D} (h0 : 0 ≤ k) (h1 : k < 2 ^ 63) (hd : ds[k.toNat]? = some d) (h : P d σ) : BT (.list ds) ∧ Op2 C A getItem (.list ds) (.int k) σ P := by
  refine ⟨bt_list, ?_⟩
  constructor
  rintro s va vb o ra rb E
  cases ra with
  | list hl na rl =>
    cases rb
    obtain ⟨v, hv, rv⟩ := rl.get hd
    exact wpAny_getItem_list hl h0 h1 (by simpa using hv) ⟨_, _, h, rv, .refl o⟩
theorem op_last_list {ds : List D} {d : D} (hd : ds.getLast? = some d) (h : P d σ) : BT (.list ds) ∧ Op2 C A getItem (.list ds) (.int (-1)) σ P := by
  refine ⟨bt_list, ?_⟩
  constructor
  rintro s va vb o ra rb E
  cases ra with
  | list hl na rl =>
    rename_i a vs
    cases rb
    have hne : ds ≠ [] := fun e => by subst e; simp at hd
    have hlen := rl.length
    have hpos : 0 < ds.length := List.length_pos_iff.mpr hne
    rw [List.getLast?_eq_getElem?] at hd
    obtain ⟨v, hv, rv⟩ := rl.get hd
    refine wpAny_getItem_list_neg hl (by omega) (by simp; omega) (by omega) (x := v) ?_ ⟨_, _, h, rv, .refl o⟩
    have e : ((-1 : Int) + ((vs.toArray.size : Nat) : Int)).toNat = ds.length - 1 := by simp; omega
    rw [e]; simpa using hv
theorem op_item_tuple {ds : List D} {k : Int} {d : D} (h0 : 0 ≤ k) (h1 : k < 2 ^ 63) (hd : ds[k.toNat]? = some d) (h : P d σ) : BT (.tuple ds) ∧ Op2 C A getItem (.tuple ds) (.int k) σ P := by
  refine ⟨bt_tuple, ?_⟩
  constructor
  rintro s va vb o ra rb E
  cases ra with
  | tuple hl na rl =>
    cases rb
    obtain ⟨v, hv, rv⟩ := rl.get hd
    refine getItem_tuple hl (by omega) h1 (j := k.toNat) ?_ (by simpa using hv) ⟨_, _, h, rv, .refl o⟩
    have := (List.getElem?_eq_some_iff.mp hv).1
    unfold seqIndex?
    have hn : ¬ k < 0 := by omega
    simp only [hn, if_false, List.size_toArray]
    rw [if_pos (by simp; omega)]
end
end Mine
namespace Mine

noncomputable def cutL {α : Type} (l : List α) (lo hi : Option Int) : List α := (l.drop (lo.elim 0 (clipAt l.length))).take (hi.elim l.length (clipAt l.length) - lo.elim 0 (clipAt l.length))
theorem cutL_take {α : Type} (l : List α) (k : Nat) : cutL l none (some (k : Int)) = l.take k := by
  simp only [cutL, Option.elim, clipAt_nat, List.drop_zero, Nat.sub_zero]
  rcases Nat.le_total k l.length with h | h
  · rw [Nat.min_eq_left h]
  · rw [Nat.min_eq_right h, List.take_length, List.take_of_length_le h]
theorem cutL_mid {α : Type} (l : List α) (a b : Nat) : cutL l (some (a : Int)) (some (b : Int)) = (l.take b).drop a := by
  simp only [cutL, Option.elim, clipAt_nat]
  rw [List.drop_take]
  rcases Nat.le_total a l.length with h | h
  · rw [Nat.min_eq_left h]
    rcases Nat.le_total b l.length with h' | h'
    · rw [Nat.min_eq_left h']
    · rw [Nat.min_eq_right h', List.take_of_length_le (by simp), List.take_of_length_le (by simp; omega)]
  · rw [Nat.min_eq_right h, List.drop_length, List.drop_of_length_le h]; simp

section
variable {C : Cx} {A : Around} {env : Env} {wr : Bool} {ρ : Rho} {σ : Sto} {E : Value → Shared → Prop} {s : Shared} {P : D → Sto → Prop}

theorem RepL.cut {h : Heap} {S : List Addr} {vs : List Value} {ds : List D} (r : RepL h S vs ds) (lo hi : Option Int) : RepL h S (cutL vs lo hi) (cutL ds lo hi) := by
  unfold cutL
  rw [r.length]
  exact (r.drop _).take _

noncomputable def EvPart (C : Cx) (A : Around) (env : Env) (wr : Bool) (ρ : Rho) (σ : Sto) : Option Expr → (Option Int → Sto → Prop) → Prop
  | none, P => P none σ
  | some e, P => Ev C A env wr ρ σ e fun d σ₁ => ∃ i, d = .int i ∧ P (some i) σ₁
structure Cut (C : Cx) (A : Around) (d : D) (lo hi : Option Int) (σ : Sto) (P : D → Sto → Prop) : Prop where
  run : ∀ s v sl vl vu, Ok C σ s.heap → Rep s.heap (C.V σ) v d → s.heap.IsSliceOf sl vl vu .none → IsPart vl lo → IsPart vu hi → ∀ E, wpAny C.M A (getItem v (.ref sl)) (Gets C σ s P) E s

theorem wp_part {e : Option Expr} {P : Option Int → Sto → Prop} (h : EvPart C A env wr ρ σ e P) (o : Ok C σ s.heap) (f : Fm C σ s.heap env wr ρ) :
    wpAny C.M A (evalPart e env) (fun v s' => ∃ i σ', P i σ' ∧ IsPart v i ∧ Nx C σ s σ' s') E s := by
  cases e with
  | none => exact wpAny_pure ⟨none, σ, h, .none, .refl o⟩
  | some e =>
    refine wpAny_mono (Ev.run h s o f E) ?_ fun _ _ x => x
    rintro v s₁ ⟨_, σ₁, ⟨i, rfl, p⟩, r, n⟩
    cases r
    exact ⟨some i, σ₁, p, .int _ _, n⟩

theorem ev_cut {value : Expr} {lower upper : Option Expr} {p pos : Pos} (h : Ev C A env wr ρ σ value fun d σ₁ => EvPart C A env wr ρ σ₁ lower fun lo σ₂ => EvPart C A env wr ρ σ₂ upper fun hi σ₃ => BT d ∧ Cut C A d lo hi σ₃ P) :
    Ev C A env wr ρ σ (.Subscript value (.Slice lower upper none p) pos) P := by
  constructor
  intro s o f E
  refine wp_subscript (wpAny_mono (h.run s o f E) ?_ fun _ _ x => x)
  rintro v s₁ ⟨d, σ₁, p₁, r₁, n₁⟩
  refine wpAny_Slice (wpAny_mono (wp_part p₁ n₁.ok (f.next n₁)) ?_ fun _ _ x => x)
  rintro vl s₂ ⟨lo, σ₂, p₂, q₂, n₂⟩
  refine wpAny_mono (wp_part p₂ n₂.ok ((f.next n₁).next n₂)) ?_ fun _ _ x => x
  rintro vu s₃ ⟨hi, σ₃, ⟨bt, p₃⟩, q₃, n₃⟩
  rw [evalPart_none]
  refine wpAny_pure ?_
  have n₄ := nx_push n₃.ok { cls := .type "slice", data := .fields #[vl, vu, .none] }
  have r₄ := ((r₁.next n₂).next n₃).next n₄
  exact ⟨bt_type r₄ bt _ rfl, wpAny_mono (p₃.run _ v _ vl vu n₄.ok r₄ (Heap.IsSliceOf.new ..) q₂ q₃ E) (fun _ _ g => Gets.next (((n₁.trans n₂).trans n₃).trans n₄) g) fun _ _ x => x⟩

theorem cut_list {ds : List D} {lo hi : Option Int} (hsz : ds.length ≤ sizeLine) (h : P (.list (cutL ds lo hi)) σ) : BT (.list ds) ∧ Cut C A (.list ds) lo hi σ P := by
  refine ⟨bt_list, ?_⟩
  constructor
  intro s v sl vl vu o r hs q₁ q₂ E
  cases r with
  | list hl hn rl =>
    rename_i a vs
    refine wpAny_getItem_list_slice hl hs q₁ q₂ .none (by simp) ?_ (by simpa [rl.length] using hsz)
    rw [slicePick_plain]
    have := rep_list o (rl.cut lo hi)
    refine ⟨_, _, h, ?_, nx_push o _⟩
    simpa [cutL] using this
theorem cut_bytes {b : Array UInt8} {lo hi : Option Int} (hsz : b.size ≤ sizeLine) (h : P (.bytes (cutL b.toList lo hi).toArray) σ) : BT (.bytes b) ∧ Cut C A (.bytes b) lo hi σ P := by
  refine ⟨bt_bytes, ?_⟩
  constructor
  intro s v sl vl vu o r hs q₁ q₂ E
  cases r
  refine getItem_meets (typeIs_bytes _ _ _) (by decide) FB.slot_bytes_getitem FB.entry_bytes_getitem (FB.args_bytes_getitem_2 _ _) (KBc.meets_slice2 b _ _ q₁ q₂) ⟨hs, Nat.le_trans (KBc.size_picked_le b lo hi) hsz, fun t' k => ?_⟩
  rw [KBc.picked_eq]
  refine ⟨_, _, h, ?_, nx_toks o _⟩
  have : ((b.toList.drop (lo.elim 0 (clipAt b.size))).take (hi.elim b.size (clipAt b.size) - lo.elim 0 (clipAt b.size))) = cutL b.toList lo hi := by simp [cutL]
  rw [this]
  exact .bytes _ _

-- texts
theorem op_add_str {x y : Str} (hsz : x.length + y.length ≤ sizeLine) (h : P (.str (x ++ y)) σ) : Op2 C A (binaryOp .Add) (.str x) (.str y) σ P := by
  constructor; rintro s _ _ o ⟨⟩ ⟨⟩ E; exact SB.add (fun t' k => ⟨_, _, h, .str _ _, nx_toks o _⟩) hsz
theorem op_add_bytes {x y : Array UInt8} (hsz : x.size + y.size ≤ 16777216) (h : P (.bytes (x ++ y)) σ) : Op2 C A (binaryOp .Add) (.bytes x) (.bytes y) σ P := by
  constructor; rintro s _ _ o ⟨⟩ ⟨⟩ E; exact KBy.add_bytes hsz fun t' k => ⟨_, _, h, .bytes _ _, nx_toks o _⟩
theorem op_eq_str {x y : Str} (h : P (.bool (x.cps.toList == y.cps.toList)) σ) : Op2 C A (compareOp .Eq) (.str x) (.str y) σ P := by
  constructor; rintro s _ _ o ⟨⟩ ⟨⟩ E; exact PySem.P.eq_str ⟨_, _, h, .bool _, .refl o⟩
theorem op_ne_str {x y : Str} (h : P (.bool (x.cps.toList != y.cps.toList)) σ) : Op2 C A (compareOp .NotEq) (.str x) (.str y) σ P := by
  constructor; rintro s _ _ o ⟨⟩ ⟨⟩ E; exact PySem.P.ne_str ⟨_, _, h, .bool _, .refl o⟩
theorem op_in_str {x y : Str} (h : P (.bool (Txt.contains x y)) σ) : Op2 C A (compareOp .In) (.str y) (.str x) σ P := by
  constructor; rintro s _ _ o ⟨⟩ ⟨⟩ E; exact SB.contains ⟨_, _, h, .bool _, .refl o⟩
theorem ev_bytes {x : List UInt8} {k : Nat} {pos : Pos} (h : P (.bytes x.toArray) σ) : Ev C A env wr ρ σ (.Constant (.bytes x) k pos) P := by
  constructor; intro s o f E; exact Constant_bytes ⟨_, _, h, .bytes _ _, nx_toks o _⟩
theorem op_eq_bytes {x y : Array UInt8} (h : P (.bool (x.toList == y.toList)) σ) : Op2 C A (compareOp .Eq) (.bytes x) (.bytes y) σ P := by
  constructor; rintro s _ _ o ⟨⟩ ⟨⟩ E; exact eq_bytes ⟨_, _, h, .bool _, .refl o⟩

-- built-in functions
theorem RepL.inv1 {h : Heap} {S : List Addr} {vs : List Value} {a : D} (r : RepL h S vs [a]) : ∃ v, vs = [v] ∧ Rep h S v a := by
  cases r with | cons r1 r => cases r; exact ⟨_, rfl, r1⟩
theorem RepL.inv2 {h : Heap} {S : List Addr} {vs : List Value} {a b : D} (r : RepL h S vs [a, b]) : ∃ v u, vs = [v, u] ∧ Rep h S v a ∧ Rep h S u b := by
  cases r with | cons r1 r => obtain ⟨u, rfl, r2⟩ := r.inv1; exact ⟨_, _, rfl, r1, r2⟩
theorem RepL.inv3 {h : Heap} {S : List Addr} {vs : List Value} {a b c : D} (r : RepL h S vs [a, b, c]) : ∃ v u w, vs = [v, u, w] ∧ Rep h S v a ∧ Rep h S u b ∧ Rep h S w c := by
  cases r with | cons r1 r => obtain ⟨u, w, rfl, r2, r3⟩ := r.inv2; exact ⟨_, _, _, rfl, r1, r2, r3⟩
theorem ca_intro {f : Value} {args : List D} (h : ∀ s vs, Ok C σ s.heap → RepL s.heap (C.V σ) vs args → ∀ E, wpAny C.M A (call f vs []) (Gets C σ s P) E s) : Ca C A f args [] σ P := by
  constructor
  intro s vs ks o r q E
  exact h s vs o r E
theorem ca_abs {a : Int} (h : P (.int (if a < 0 then -a else a)) σ) : Ca C A (.builtin "abs") [.int a] [] σ P := by
  refine ca_intro fun s vs o r E => ?_
  cases r with | cons r1 r => cases r; cases r1; exact call_abs_int fun u tk => ⟨_, _, h, .int _ _, nx_toks o _⟩
theorem ca_int {a : Int} (h : P (.int a) σ) : Ca C A (.type "int") [.int a] [] σ P := by
  refine ca_intro fun s vs o r E => ?_
  cases r with | cons r1 r => cases r; cases r1; exact call_int_int ⟨_, _, h, .int _ _, .refl o⟩
theorem ca_divmod {a b : Int} (h0 : 0 < b) (h1 : b < 1073741824) (h : P (.tuple [.int (a / b), .int (a % b)]) σ) : Ca C A (.builtin "divmod") [.int a, .int b] [] σ P := by
  refine ca_intro fun s vs o r E => ?_
  obtain ⟨_, _, rfl, r1, r2⟩ := r.inv2
  cases r1; cases r2
  refine divmod_int (by omega) ⟨_, _, h, ?_, ?_⟩ (Or.inl (PyProof.noPylong_small (by omega)))
  · have := rep_tuple (s := s) o (vs := [.int (a.fdiv b) s.toks, .int (a.fmod b) (s.toks + 1)]) (ds := [.int (a / b), .int (a % b)])
      (.cons (by rw [Int.fdiv_eq_ediv_of_nonneg _ (Int.le_of_lt h0)]; exact .int _ _) (.cons (by rw [Int.fmod_eq_emod_of_nonneg _ (Int.le_of_lt h0)]; exact .int _ _) .nil))
    exact this
  · exact Nx.of_keeps o fun _ _ e => Heap.get?_push_of_some _ e
theorem ca_chr {i : Int} (h0 : 0 ≤ i) (h1 : i ≤ 1114111) (h : P (.str ⟨#[i.toNat]⟩) σ) : Ca C A (.builtin "chr") [.int i] [] σ P := by
  refine ca_intro fun s vs o r E => ?_
  cases r with | cons r1 r => cases r; cases r1; exact chr_of_range h0 h1 ⟨_, _, h, .str _ _, nx_toks o _⟩
theorem ca_ord {c : Nat} (h : P (.int c) σ) : Ca C A (.builtin "ord") [.str ⟨#[c]⟩] [] σ P := by
  refine ca_intro fun s vs o r E => ?_
  cases r with | cons r1 r => cases r; cases r1; exact PySem.P.ord_of_char ⟨_, _, h, .int _ _, nx_toks o _⟩
theorem ca_len_list {ds : List D} (hsz : ds.length ≤ sizeLine) (h : P (.int ds.length) σ) : Ca C A (.builtin "len") [.list ds] [] σ P := by
  refine ca_intro fun s vs o r E => ?_
  obtain ⟨_, rfl, r1⟩ := r.inv1
  cases r1 with
  | list hl hn rl =>
    rename_i a vs
    have e := rl.length
    refine len_list hl (by have : sizeLine = 16777216 := rfl; simp; omega) ⟨_, _, h, ?_, nx_toks o _⟩
    have : ((vs.toArray.size : Nat) : Int) = (ds.length : Int) := by simp [e]
    rw [this]; exact .int _ _
theorem ca_len_str {x : Str} (hsz : x.length ≤ sizeLine) (h : P (.int x.length) σ) : Ca C A (.builtin "len") [.str x] [] σ P := by
  refine ca_intro fun s vs o r E => ?_
  cases r with | cons r1 r => cases r; cases r1; exact PySem.P.len_str (by have : sizeLine = 16777216 := rfl; omega) ⟨_, _, h, .int _ _, nx_toks o _⟩
theorem ca_len_bytes {x : Array UInt8} (hsz : x.size ≤ sizeLine) (h : P (.int x.size) σ) : Ca C A (.builtin "len") [.bytes x] [] σ P := by
  refine ca_intro fun s vs o r E => ?_
  cases r with | cons r1 r => cases r; cases r1; exact len_bytes (by have : sizeLine = 16777216 := rfl; omega) ⟨_, _, h, .int _ _, nx_toks o _⟩
end
end Mine
namespace Mine

section
variable {C : Cx} {A : Around} {env : Env} {wr : Bool} {ρ : Rho} {σ : Sto} {E : Value → Shared → Prop} {s : Shared} {P : D → Sto → Prop}

-- targets
noncomputable def AsgL (C : Cx) (A : Around) (env : Env) (wr : Bool) : Rho → Sto → List Expr → List D → (Rho → Sto → Prop) → Prop
  | ρ, σ, [], [], P => P ρ σ
  | ρ, σ, t :: ts, d :: ds, P => Asg C A env wr ρ σ t d fun ρ₁ σ₁ => AsgL C A env wr ρ₁ σ₁ ts ds P
  | _, _, _, _, _ => False

theorem noStar_assign {t : Expr} {ts : List Expr} (h : noStar (t :: ts) = true) : noStar ts = true ∧ assignEach (t :: ts) env = (false, assign t env) :: assignEach ts env := by
  cases t <;> first | exact ⟨h, rfl⟩ | cases h
theorem assignEach_length : ∀ {ts : List Expr}, noStar ts = true → (assignEach ts env).length = ts.length ∧ (assignEach ts env).findIdx? (·.1) = none
  | [], _ => ⟨rfl, rfl⟩
  | t :: ts, h => by
    obtain ⟨h1, h2⟩ := noStar_assign (env := env) h
    obtain ⟨h3, h4⟩ := assignEach_length (ts := ts) h1
    rw [h2]
    exact ⟨by simp [h3], by simp [List.findIdx?_cons, h4]⟩
theorem wp_order : ∀ {ts : List Expr} {ds : List D} {vs : List Value} {ρ : Rho} {σ : Sto} {s : Shared} {P : Rho → Sto → Prop}, noStar ts = true → AsgL C A env wr ρ σ ts ds P → Ok C σ s.heap → Fm C σ s.heap env wr ρ → RepL s.heap (C.V σ) vs ds →
    wpAny C.M A (assignInOrder ((assignEach ts env).map (·.2)) vs) (fun _ s' => ∃ ρ' σ', P ρ' σ' ∧ Nz C env wr σ s σ' s' ∧ Fm C σ' s'.heap env wr ρ') E s
  | [], [], vs, ρ, σ, s, P, _, h, o, f, r => by cases r; exact wpAny_pure ⟨ρ, σ, h, .refl o f, f⟩
  | t :: ts, d :: ds, vs, ρ, σ, s, P, hs, h, o, f, r => by
    obtain ⟨h1, h2⟩ := noStar_assign (env := env) hs
    cases r with
    | cons r1 r =>
      rw [h2]
      show wpAny _ _ (do holding _ (assign t env _); assignInOrder ((assignEach ts env).map (·.2)) _) _ _ _
      refine wpAny_bind (wpAny_holding (wpAny_mono (Asg.run h s _ o f r1 E) ?_ fun _ _ x => x))
      rintro _ s₁ ⟨ρ₁, σ₁, p₁, nz₁, f₁⟩
      refine wpAny_mono (wp_order h1 p₁ nz₁.ok f₁ (r.mono (nz₁.seqs f))) ?_ fun _ _ x => x
      rintro _ s₂ ⟨ρ₂, σ₂, p₂, nz₂, f₂⟩
      exact ⟨ρ₂, σ₂, p₂, nz₁.trans nz₂, f₂⟩
  | [], _ :: _, _, _, _, _, _, _, h, _, _, _ => h.elim
  | _ :: _, [], _, _, _, _, _, _, h, _, _, _ => h.elim
theorem ext_keeps {h h' : Heap} (e : Heap.ExtBut h.objs.size h h') : ∀ a o, h.get? a = some o → h'.get? a = some o := fun a o q => e a o (Nat.ne_of_lt (Heap.lt_size q)) q

theorem asg_tuple {ts : List Expr} {k : Nat} {pos : Pos} {ds : List D} {P : Rho → Sto → Prop} (hh : A.handled = none) (hl : ts.length = ds.length) (h : AsgL C A env wr ρ σ ts ds P) (hs : noStar ts = true := by rfl) : Asg C A env wr ρ σ (.Tuple ts k pos) (.tuple ds) P := by
  constructor
  intro s v o f r E
  obtain ⟨e1, e2⟩ := assignEach_length (env := env) hs
  cases r with
  | tuple ht hn rl =>
    refine wpAny_assign_Tuple hh ht (by rw [e1, hl]; simp [rl.length]) e2 fun h' he => ?_
    have n := Nx.of_keeps (s' := { s with heap := h' }) o (ext_keeps he)
    refine wpAny_mono (wp_order hs h n.ok (f.next n) (rl.next n)) ?_ fun _ _ x => x
    rintro _ s₂ ⟨ρ₂, σ₂, p₂, nz₂, f₂⟩
    exact ⟨ρ₂, σ₂, p₂, (n.nz f).trans nz₂, f₂⟩
theorem ex1_assign_t {t e : Expr} {pos : Pos} {P : Fl → Rho → Sto → Prop} (h : Ev C A env wr ρ σ e fun d σ₁ => Asg C A env wr ρ σ₁ t d fun ρ' σ' => P .nx ρ' σ')
    (hst : noStar [t] = true := by rfl) (hs : swapsWithSole [t] e pos.line env = pure false := by rfl) (hw : swappedStores [t] e env = pure none := by rfl) : Ex1 C A env wr ρ σ (.Assign [t] e pos) P := by
  constructor
  intro s o f E
  refine wpAny_Assign_stores (wpAny_mono (h.run s o f E) ?_ fun _ _ x => x) hs hw
  rintro v s₁ ⟨d, σ₁, p, r, n₁⟩
  obtain ⟨_, h2⟩ := noStar_assign (env := env) hst
  rw [h2]
  show wpAny C.M A (assign t env v) _ E s₁
  refine wpAny_mono (p.run s₁ v n₁.ok (f.next n₁) r E) ?_ fun _ _ x => x
  rintro _ s₂ ⟨ρ₂, σ₂, p₂, nz₂, f₂⟩
  exact ⟨_, _, _, p₂, .nx, (n₁.nz f).trans nz₂, f₂⟩

theorem evl_nil {P : List D → Sto → Prop} (h : P [] σ) : EvL C A env wr ρ σ [] P := h
theorem evk_nil {P : List (Str × D) → Sto → Prop} (h : P [] σ) : EvK C A env wr ρ σ [] P := h
theorem evl_cons {e : Expr} {es : List Expr} {P : List D → Sto → Prop} (h : Ev C A env wr ρ σ e fun d σ₁ => EvL C A env wr ρ σ₁ es fun ds σ₂ => P (d :: ds) σ₂) : EvL C A env wr ρ σ (e :: es) P := h
theorem evk_cons {e : Keyword} {es : List Keyword} {P : List (Str × D) → Sto → Prop} (h : Ev C A env wr ρ σ e.value fun d σ₁ => EvK C A env wr ρ σ₁ es fun ds σ₂ => P ((e.arg.getD Str.empty, d) :: ds) σ₂) : EvK C A env wr ρ σ (e :: es) P := h
theorem evp_none {P : Option Int → Sto → Prop} (h : P none σ) : EvPart C A env wr ρ σ none P := h
theorem evp_some {e : Expr} {P : Option Int → Sto → Prop} (h : Ev C A env wr ρ σ e fun d σ₁ => ∃ i, d = .int i ∧ P (some i) σ₁) : EvPart C A env wr ρ σ (some e) P := h
theorem asgl_nil {P : Rho → Sto → Prop} (h : P ρ σ) : AsgL C A env wr ρ σ [] [] P := h
theorem asgl_cons {t : Expr} {ts : List Expr} {d : D} {ds : List D} {P : Rho → Sto → Prop} (h : Asg C A env wr ρ σ t d fun ρ₁ σ₁ => AsgL C A env wr ρ₁ σ₁ ts ds P) : AsgL C A env wr ρ σ (t :: ts) (d :: ds) P := h

-- methods
structure Gm (C : Cx) (A : Around) (d : D) (name : Str) (f : Value) (σ : Sto) : Prop where
  run : ∀ s v pl, Ok C σ s.heap → Rep s.heap (C.V σ) v d → ∀ E Q, Q (f, [v]) s → wpAny C.M A (getMethod v name pl) Q E s
theorem gm_lower {x : Str} : Gm C A (.str x) "lower" (.builtin "str.lower") σ := by constructor; rintro s _ pl o ⟨⟩ E Q h; exact GM.lower h
theorem gm_join {x : Str} : Gm C A (.str x) "join" (.builtin "str.join") σ := by constructor; rintro s _ pl o ⟨⟩ E Q h; exact GM.join h
theorem ev_method {o : Expr} {name : Str} {apos pos : Pos} {args : List Expr} {kws : List Keyword} {pl : Sem Bool}
    (h : Ev C A env wr ρ σ o fun d σ₁ => ∃ f, Gm C A d name f σ₁ ∧ Kp C f ∧ EvL C A env wr ρ σ₁ args fun ds σ₂ => EvK C A env wr ρ σ₂ kws fun ks σ₃ => Ca C A f (d :: ds) ks σ₃ P)
    (he : eval (.Call (.Attribute o name apos) args kws pos) env = (do
      let ov ← eval o env
      standAt apos.atName
      let (f, first) ← holding [ov] (getMethod ov name pl)
      callWith pos f first (backTo pos (starEach args env)) (backToKw pos (keywordEach kws env))) := by rfl)
    (hs : noStar args = true := by rfl) (hk : kws.all (·.arg.isSome) = true := by rfl) : Ev C A env wr ρ σ (.Call (.Attribute o name apos) args kws pos) P := by
  constructor
  intro s ok f E
  rw [he]
  refine wpAny_bind (wpAny_mono (h.run s ok f E) ?_ fun _ _ x => x)
  rintro v s₁ ⟨d, σ₁, ⟨fv, gm, kp, q⟩, r, n₁⟩
  refine wpAny_bind (wpAny_standAt (wpAny_bind (wpAny_holding (gm.run s₁ v pl n₁.ok r E _ ?_))))
  exact wpAny_mono (wp_callWith kp n₁.ok (f.next n₁) (.cons r .nil) q hs hk) (fun _ _ g => Gets.next n₁ g) fun _ _ x => x

theorem strs_rep {h : Heap} {S : List Addr} : ∀ {vs : List Value} {xs : List Str}, RepL h S vs (xs.map .str) → ∃ l : List (Str × Tok), vs = strValues l ∧ l.map (·.1) = xs
  | _, [], r => by cases r; exact ⟨[], rfl, rfl⟩
  | _, x :: xs, r => by
    cases r with
    | cons r1 r =>
      cases r1 with
      | str _ t =>
        obtain ⟨l, rfl, e⟩ := strs_rep r
        exact ⟨(x, t) :: l, rfl, by simp [e]⟩
theorem ca_join {x : Str} {xs : List Str} (hok : JoinOk x xs = true) (h : P (.str (Txt.join x xs)) σ) : Ca C A (.builtin "str.join") [.str x, .list (xs.map .str)] [] σ P := by
  refine ca_intro fun s vs o r E => ?_
  obtain ⟨_, _, rfl, r1, r2⟩ := r.inv2
  cases r1
  cases r2 with
  | list hl hn rl =>
    obtain ⟨l, rfl, e⟩ := strs_rep rl
    exact SC.join hl e hok fun t' k => ⟨_, _, h, .str _ _, nx_toks o _⟩
theorem ca_lower {x : Str} (hsz : x.length ≤ 5592405) (h : P (.str (Txt.lower x)) σ) : Ca C A (.builtin "str.lower") [.str x] [] σ P := by
  refine ca_intro fun s vs o r E => ?_
  obtain ⟨_, rfl, r1⟩ := r.inv1
  cases r1
  exact SCL.lower hsz fun _ => ⟨_, _, h, .str _ _, nx_toks o _⟩

theorem ints_rep {h : Heap} {S : List Addr} : ∀ {vs : List Value} {xs : List Int}, RepL h S vs (xs.map .int) → IntsAre vs xs
  | _, [], r => by cases r; exact .nil
  | _, x :: xs, r => by
    cases r with
    | cons r1 r =>
      cases r1 with
      | int _ t => exact .cons x t (ints_rep r)
theorem ints_items {vs : List Value} {ns : List Int} (h : IntsAre vs ns) : ∃ xs : Array (Int × Tok), vs.toArray = intItems xs ∧ preSum (numAt xs) xs.size = ns.sum := by
  obtain ⟨xs, e⟩ := h.allInts.items
  refine ⟨xs, e, ?_⟩
  have e2 := h.numsOf
  rw [show vs = (intItems xs).toList by rw [← e], nums_intItems] at e2
  rw [preSum_eq, List.take_of_length_le (by simp), ← e2]
theorem ca_sum (hh : A.handled = none) {ns : List Int} (h : P (.int ns.sum) σ) : Ca C A (.builtin "sum") [.list (ns.map .int)] [] σ P := by
  refine ca_intro fun s vs o r E => ?_
  obtain ⟨_, rfl, r1⟩ := r.inv1
  cases r1 with
  | list hl hn rl =>
    obtain ⟨xs, e, e2⟩ := ints_items (ints_rep rl)
    rw [e] at hl
    refine sum_intListG hh hl fun h' tk t' hk => ⟨_, _, h, ?_, Nx.of_keeps o hk⟩
    rw [e2]; exact .int _ _

theorem ca_range1 {n : Int} (h : P (.range 0 n 1) σ) : Ca C A (.type "range") [.int n] [] σ P := by
  refine ca_intro fun s vs o r E => ?_
  obtain ⟨_, rfl, r1⟩ := r.inv1
  cases r1
  exact call_range_1 ⟨_, _, h, .range (IsRange.new ..) (size_notin o (Nat.le_refl _)), Nx.of_keeps o fun _ _ e => Heap.get?_push_of_some _ e⟩
theorem ca_range2 {a b : Int} (h : P (.range a b 1) σ) : Ca C A (.type "range") [.int a, .int b] [] σ P := by
  refine ca_intro fun s vs o r E => ?_
  obtain ⟨_, _, rfl, r1, r2⟩ := r.inv2
  cases r1; cases r2
  exact call_range_2 ⟨_, _, h, .range (IsRange.new ..) (size_notin o (Nat.le_refl _)), Nx.of_keeps o fun _ _ e => Heap.get?_push_of_some _ e⟩
-- iterating over bytes
noncomputable def octets (b : Array UInt8) : List D := b.toList.map fun c => .int (c.toNat : Int)
theorem wk_bytes (hh : A.handled = none) {I : Addr} {b : Array UInt8} {t : Tok} : Wk C A I none (octets b) (fun i h _ => KBw.IsBytesIter h I b t i) where
  frame := fun i h σ h' σ' st kI sq _ _ => by obtain ⟨o, ho, r⟩ := st; exact ⟨o, kI o ho, r⟩
  item := fun i σ s Q E d hd st ok _ hQ => by
    obtain ⟨c, hc, rfl⟩ : ∃ c, b[i]? = some c ∧ d = .int (c.toNat : Int) := by
      simp only [octets, List.getElem?_map, Option.map_eq_some_iff] at hd
      obtain ⟨c, h1, h2⟩ := hd
      exact ⟨c, by simpa using h1, h2.symm⟩
    exact KBw.next_item st hc fun h' hit hb => hQ _ _ (fun ok' sq => ⟨.int _ _, hit⟩) (fun b o hne e => (hb.2 b hne).trans e) rfl rfl
  done := fun σ s Q E st ok _ hQ => by
    rw [show (octets b).length = b.size by simp [octets]] at st
    exact KBw.next_end hh st (by simp) fun h' he => hQ _ (fun b o hne e => he b o hne e) rfl rfl
  self := fun i σ s Q E st hQ => KBw.pyIter_self st hQ
  go := fun t i σ s v Q E st hQ => by
    obtain ⟨o, ho, hc, hd⟩ := st
    exact go_iter ho hc hd (by decide) hQ
  ex := fun i h σ st => by obtain ⟨o', ho, _⟩ := st; exact ⟨_, ho⟩
  nf := fun i h σ st o e => by
    obtain ⟨o', ho, hc, hd⟩ := st
    rw [ho] at e; cases e
    rintro (⟨_, _, z⟩ | ⟨_, z⟩)
    · rw [hd] at z; cases z
    · rw [hc] at z; exact absurd z (by decide)
theorem itr_bytes (hh : A.handled = none) {b : Array UInt8} : Itr C A (.bytes b) σ none (octets b) := by
  intro s v ok r E Q hQ
  cases r with
  | bytes _ t =>
    refine KBw.pyIter_bytes ?_
    exact hQ s.heap.objs.size _ _ (fun Zs => wk_bytes (C := C.withZ Zs) hh (t := t)) (fun Zs h'' kI sq => ⟨_, kI _ (Heap.get?_push_size _ rfl), rfl, rfl⟩) none_at_size (fun b o e => Heap.get?_push_of_some _ e) rfl rfl
end
end Mine
namespace Mine

section
variable {C : Cx} {A : Around} {env : Env} {wr : Bool} {ρ : Rho} {σ : Sto} {E : Value → Shared → Prop} {s : Shared} {P : D → Sto → Prop}

/-- the way into a def of the text, its body still to be run -/
theorem fun_entry {fa : Addr} {fd : FuncData} {body : List Stmt} {args : List D} {kw : List (Str × D)} {R : Rho → Sto → Prop} {n : Nat} {vs ks : List Value} {RR : Result → Shared → Prop} (rm : Rm n A) (F : FnAt C fa fd body)
    (o : Ok C σ s.heap) (r : RepL s.heap (C.V σ) vs args) (q : RepL s.heap (C.V σ) ks (kw.map (·.2)))
    (hb : Bnd C fd args kw σ fun ρ₀ σ₁ => bindsOk fd (ρ₀.map (·.1)) = true ∧ R ρ₀ σ₁)
    (h : ∀ ρ₀ σ₁ L s₂, R ρ₀ σ₁ → Nx C σ s σ₁ s₂ → Fm C σ₁ s₂.heap (fenv fd fa L) true ρ₀ → (∀ a x, s.heap.get? a = some x → a ∉ σ.S → ¬ Own (fenv fd fa L) a) →
      wpAny C.M (A.deeper (fenv fd fa L)) (execs body (fenv fd fa L)) (fun f s' => RR (.ok (.ret (match f with | .ret v => v | _ => .none))) s') (fun _ _ => False) s₂) :
    codeAny C.M A (.call (.ref fa) ⟨vs, (kw.map (·.1)).zip ks⟩) RR s := by
  obtain ⟨⟨ob, ho, hd⟩, hcd, hbody, hpl⟩ := F
  simp only [Bool.and_eq_true, beq_iff_eq, Bool.not_eq_true', List.isEmpty_iff] at hpl
  obtain ⟨⟨⟨⟨⟨hcl, hgl⟩, hbl⟩, hco⟩, hgen⟩, hk⟩ := hpl
  refine codeAny_call_function (by have := rm.depth; show A.depth < 1000; omega) (o.base _ _ ho) hd hco hgen hbody (hcd.keeps o.base) ?_
  refine wpAny_mono (hb _ s vs ks o r q _) ?_ fun _ _ x => x
  rintro binds s₁ ⟨ρ₀, σ₁, bs, ⟨hok, hx⟩, rfl, rb, n₁⟩
  simp only [bindsOk, Bool.and_eq_true, decide_eq_true_eq] at hok
  have hnm : ((ρ₀.map (·.1)).zip bs).map (·.1) = ρ₀.map (·.1) := zip_names (by have := rb.length; simpa using this)
  have hall : (((ρ₀.map (·.1)).zip bs).all fun y => fd.scope.names.lookup y.1 == some .local || fd.scope.names.lookup y.1 == some .cell) = true := by
    rw [List.all_eq_true]
    intro y hy
    exact List.all_eq_true.mp hok.1 y.1 (hnm ▸ List.mem_map_of_mem hy)
  rw [hcl]
  refine wpAny_newFunctionEnv_cells hk (kindsX hall _) ?_
  rintro env' rfl s₂ ic
  have icm := ic.toInCall
  obtain ⟨h₂, tk, e₂⟩ := icm.same
  have L0 : (newEnv fd.scope s₁.heap.objs.size fd.globals (cellsFrom (s₁.heap.objs.size + 1) fd.scope.names []) (fd.qualname ++ ".<locals>.") (some fa) fd.code none fd.builtins) = fenv fd fa s₁.heap.objs.size := rfl
  rw [L0] at ic icm ⊢
  have n₂ : Nx C σ₁ s₁ σ₁ s₂ := Nx.of_keeps n₁.ok icm.keep (by rw [e₂]) (by rw [e₂])
  have hL : (fenv fd fa s₁.heap.objs.size).locals = s₁.heap.objs.size := rfl
  have fm : Fm C σ₁ s₂.heap (fenv fd fa s₁.heap.objs.size) true ρ₀ := by
    refine ⟨⟨_, icm.ns, fun x d e => ?_⟩, hk, hgl, hbl, ?_, fun x c hc => ?_, fun x y c hx hy => ?_⟩
    · obtain ⟨v, hv, rv⟩ := zip_lookup rb e
      refine ⟨v, rv.next n₂, ?_⟩
      have hnd : (((ρ₀.map (·.1)).zip bs).map (·.1)).Nodup := by rw [hnm]; exact hok.2
      rcases kindsX hall (s₁.heap.objs.size + 1) _ hv with hx | ⟨hx, hs⟩
      · exact .inl ⟨hx, bindL_get hx _ _ hnd hv⟩
      · obtain ⟨c, hc⟩ := Option.isSome_iff_exists.mp hs
        refine .inr ⟨.inl hx, c, hc, ?_⟩
        have := ic.cell x c hc
        rwa [bindC_get (k := (fenv fd fa s₁.heap.objs.size).kindOf) (by show fd.scope.names.lookup x ≠ some .local; rw [hx]; intro z; cases z) _ _ hnd hv] at this
    · exact free_of_size n₁.ok (Nat.le_refl _)
    · have ab := ic.above x c (mem_lookup hc)
      have fr := free_of_size n₁.ok (Nat.le_of_lt ab)
      exact ⟨⟨_, ic.cell x c hc⟩, fun z => by rw [z] at ab; exact Nat.lt_irrefl _ ab, fr.2, fun _ => fr.1⟩
    · exact pairwise_eq ic.apart (mem_lookup hx) (mem_lookup hy)
  refine ⟨?_, codeAny_func (wpAny_mono (h ρ₀ σ₁ s₁.heap.objs.size s₂ hx (n₁.trans n₂) fm fun a x e hS ha => ?_) (fun _ _ x => x) fun _ _ x => x.elim)⟩
  · obtain ⟨mc, hn, hm⟩ := C.lim; exact ⟨mc, Ns.keep hn n₂.ok.base, hm⟩
  · have lt := Heap.lt_size (n₁.le a x e hS).1
    rcases ha with z | ⟨x, hc⟩
    · rw [z, hL] at lt; exact Nat.lt_irrefl _ lt
    · exact absurd (Nat.lt_trans lt (ic.above x a (mem_lookup hc))) (Nat.lt_irrefl _)

/-- the Headers object: its class, its dict's one entry, the list behind it -/
structure Tb (C : Cx) (Hc x l : Addr) : Prop where
  get : ∃ dx hsh t n, (x, instObj Hc dx) ∈ C.pins ∧ (dx, dictOf [⟨hsh, .str "_headers" t, .ref l⟩] n) ∈ C.pins
theorem Tb.inst {Hc x l : Addr} (T : Tb C Hc x l) {h : Heap} (o : Ok C σ h) : ∃ ox hsh t n, InstAt h x ox Hc (some (dictOf [⟨hsh, .str "_headers" t, .ref l⟩] n)) ∧ ∃ dx, ox = instObj Hc dx := by
  obtain ⟨dx, hsh, t, n, h1, h2⟩ := T.get
  exact ⟨_, hsh, t, n, ⟨o.pin _ h1, rfl, rfl, o.pin _ h2⟩, dx, rfl⟩

structure ClsOk (K : Frag) (Hc : Addr) : Prop where
  ga : findIn K (.ref Hc) "__getattribute__" = some (some (.builtin "object.__getattribute__"))
  gat : findIn K (.ref Hc) "__getattr__" = some none
  hdr : ∀ hsh t l n, findObj K Hc (some (dictOf [⟨hsh, .str "_headers" t, .ref l⟩] n)) "_headers" = some (.value (.ref l))

theorem gm_own {K : Frag} {Hc x l f : Addr} {name : Str} (X : K.In C.h₀) (T : Tb C Hc x l) (ok : ClsOk K Hc) (hf : findIn K (.ref Hc) name = some (some (.ref f))) (ht : typeIn K (.ref f) = some (.type "function"))
    (hn : (("_headers" : Str) == name) = false) : Gm C A (.raw (.ref x)) name (.ref f) σ := by
  constructor
  rintro s _ pl o ⟨⟩ E Q h
  obtain ⟨ox, hsh, t, n, I, _⟩ := T.inst o
  refine method_fn (X.keeps o.base) I ok.ga ok.gat hf ht ?_ h
  show (lookIn name (dictOf _ _)).map _ = _
  rw [lookIn_dict]
  have hk : Value.isStr (.str "_headers" t) name = false := by show (("_headers" : Str) == name) = false; exact hn
  simp only [getL, List.find?_cons, hk, List.find?_nil]
  simp [DictEntry.refKey]

theorem ev_headers {K : Frag} {Hc x l : Addr} {o : Expr} {pos : Pos} (X : K.In C.h₀) (T : Tb C Hc x l) (ok : ClsOk K Hc)
    (h : Ev C A env wr ρ σ o fun d σ₁ => d = .raw (.ref x) ∧ P (.raw (.ref l)) σ₁)
    (hb : attributeBase o "_headers" env (eval o env) = eval o env := by rfl) : Ev C A env wr ρ σ (.Attribute o "_headers" pos) P := by
  constructor
  intro s ok' f E
  show wpAny C.M A (do
    let ov ← attributeBase o "_headers" env (eval o env)
    standAt pos.atName
    let r ← holding [ov] (getAttr ov "_headers" true)
    letTemporaryGo o ov r
    pure r) _ E s
  rw [hb]
  refine wpAny_bind (wpAny_mono (h.run s ok' f E) ?_ fun _ _ x => x)
  rintro v s₁ ⟨_, σ₁, ⟨rfl, p⟩, r, n₁⟩
  cases r
  obtain ⟨ox, hsh, t, n, I, _⟩ := T.inst n₁.ok
  refine wpAny_bind (wpAny_standAt (wpAny_bind (wpAny_holding (get_value (X.keeps n₁.ok.base) I ok.ga (ok.hdr _ _ _ _) rfl ?_))))
  exact wpAny_bind (wpAny_letTemporaryGo (wpAny_pure ⟨_, _, p, .raw _, n₁.trans (nx_toks n₁.ok _)⟩))
end
end Mine
namespace Mine

noncomputable def updS (σ : Sto) (l : Addr) (vs : List Value) (ds : List D) : Sto := σ.map fun p => if p.1 = l then (l, vs, ds) else p
theorem updS_S {σ : Sto} {l : Addr} {vs : List Value} {ds : List D} : (updS σ l vs ds).S = σ.S := by
  unfold updS
  induction σ with
  | nil => rfl
  | cons p r ih =>
    show _ :: Sto.S _ = _ :: Sto.S _
    rw [ih]
    congr 1
    dsimp only
    split
    · rename_i h; exact h.symm
    · rfl
theorem mem_S {σ : Sto} {l : Addr} {vs : List Value} {ds : List D} (h : (l, vs, ds) ∈ σ) : l ∈ σ.S := List.mem_map.mpr ⟨_, h, rfl⟩

section
variable {C : Cx} {A : Around} {env : Env} {wr : Bool} {ρ : Rho} {σ : Sto} {E : Value → Shared → Prop} {s : Shared} {P : D → Sto → Prop}

theorem store_upd {l : Addr} {h h' : Heap} {vs : List Value} {ds : List D} {n : Nat} (o : Ok C σ h) (hin : l ∈ σ.S) (hb : Heap.SameBut l h h') (hl : h'.get? l = some (listOf vs.toArray n)) (r : RepL h (C.V σ) vs ds) :
    Ok C (updS σ l vs ds) h' ∧ Le h σ.S h' (updS σ l vs ds).S := by
  have hS := updS_S (σ := σ) (l := l) (vs := vs) (ds := ds)
  have hV : C.V (updS σ l vs ds) = C.V σ := by simp only [Cx.V, hS]
  have le : Le h σ.S h' σ.S := fun a x e n => ⟨(hb.2 a fun z => n (z ▸ hin)).trans e, n⟩
  obtain ⟨p₀, hp₀, e₀⟩ := List.mem_map.mp hin
  have frl := o.off p₀ hp₀
  rw [e₀] at frl
  refine ⟨⟨fun a x e => ?_, fun p hp => (hb.2 _ (frl.2.1 p hp)).trans (o.pin p hp), fun p hp => ?_, fun p hp => ?_, by rw [hS]; exact o.nd, fun a ha => ?_⟩, by rw [hS]; exact le⟩
  · exact (hb.2 a fun z => by subst z; rw [frl.1] at e; cases e).trans (o.base a x e)
  · obtain ⟨q, hq, e⟩ := List.mem_map.mp hp
    split at e
    · rw [← e]; exact frl
    · rw [← e]; exact o.off q hq
  · obtain ⟨q, hq, e⟩ := List.mem_map.mp hp
    rw [hV]
    split at e
    · rw [← e]; exact ⟨n, hl, r.mono le.v⟩
    · rename_i hne
      rw [← e]
      obtain ⟨k, e1, r1⟩ := o.at_ q hq
      exact ⟨k, (hb.2 _ hne).trans e1, r1.mono le.v⟩
  · exact (o.zs a ha).imp fun x e => (hb.2 a fun z => frl.2.2 (z ▸ ha)).trans e

theorem gm_append {l : Addr} {vs : List Value} {ds : List D} (hin : (l, vs, ds) ∈ σ) : Gm C A (.raw (.ref l)) "append" (.builtin "list.append") σ := by
  constructor
  rintro s _ pl o ⟨⟩ E Q h
  obtain ⟨n, e, _⟩ := o.at_ _ hin
  exact getMethod_builtin ⟨_, e, rfl⟩ PySem.F.plainAttrs_list PySem.F.slot_list_append PySem.F.type_list_append (fun a q => by cases q; exact ⟨_, e, rfl⟩) h
theorem ca_append {l : Addr} {vs : List Value} {ds : List D} {d : D} (hin : (l, vs, ds) ∈ σ) (hsz : ds.length ≤ sizeLine) (h : ∀ v, P .none (updS σ l (vs ++ [v]) (ds ++ [d]))) : Ca C A (.builtin "list.append") [.raw (.ref l), d] [] σ P := by
  refine ca_intro fun s us o r E => ?_
  obtain ⟨_, v, rfl, r1, r2⟩ := r.inv2
  cases r1
  obtain ⟨n, e, rl⟩ := o.at_ _ hin
  refine wpAny_list_append_plain (items := vs.toArray) ⟨n, e⟩ (fun h' pl hb => ?_) (by have := rl.length; simp at this; simp [this]; exact hsz)
  obtain ⟨n', e'⟩ := pl
  have e'' : h'.get? l = some (listOf (vs ++ [v]).toArray n') := by rw [e']; simp
  obtain ⟨o', le⟩ := store_upd o (mem_S hin) hb e'' (rl.append (.cons r2 .nil))
  exact ⟨_, _, h v, .none, o', le, rfl, rfl⟩
theorem wp_listItems {M : Model} {a : Addr} {ob : Obj} {xs : Array Value} {n : Nat} {Q : Array Value → Shared → Prop} (ho : s.heap.get? a = some ob) (hd : ob.data = .seq xs n) (h : Q xs s) : wpAny M A (Builtin.List.listItems (.ref a)) Q E s := by
  unfold Builtin.List.listItems
  exact wpAny_bind (wpAny_seqItems ho hd (wpAny_pure h))
theorem setItem_all {prog : Program} {w : World} {l sl b : Addr} {xs new : Array Value} {n : Nat} {Q : Unit → Shared → Prop} (ho : s.heap.get? l = some (listOf xs n)) (hb : s.heap.IsList b new) (hne : l ≠ b)
    (hs : s.heap.IsSliceOf sl .none .none .none) (hz : xs.size + new.size ≤ sizeLine)
    (hQ : ∀ h' n', h'.get? l = some (listOf new n') → Heap.SameBut l s.heap h' → Q () { s with heap := h' }) : wpAny (model prog w) A (setItem (.ref l) (.ref sl) (.ref b)) Q E s := by
  have hl : s.heap.IsList l xs := ⟨_, ho, rfl, n, rfl⟩
  obtain ⟨os, hos, hcs, hds⟩ := id hs
  obtain ⟨ob, hob, hcb, nb, hdb⟩ := id hb
  have hTs : s.TypeIs (.ref sl) "slice" := ⟨os, hos, hcs⟩
  have hTb : s.TypeIs (.ref b) "list" := ⟨ob, hob, hcb⟩
  unfold setItem
  try with_reducible refine wpAny_holding ?_
  first | refine wpAny_bind (wpAny_pure ?_) | skip
  refine wpAny_bind (wpAny_sequenceKey hl.typeIs (by decide) ?_)
  refine wpAny_bind (wpAny_callSpecial?_slot (name := Str.ofString "__setitem__") hl.typeIs slot_list_setitem
    (wpAny_call_entry slot_list_setitem hl.typeIs entry_list_setitem ?_ (args_list_setitem _ _ _)))
  show wpAny _ _ (Builtin.List.listSubscript? (.ref sl) >>= _) _ _ s
  refine wpAny_bind ?_
  unfold Builtin.List.listSubscript?
  refine wpAny_bind (wpAny_specialOf hTs slice_no_index ?_)
  simp only [Option.isNone_none, if_true]
  refine wpAny_pure ?_
  show wpAny _ _ (typeOf (.ref sl) >>= _) _ _ s
  refine wpAny_bind (wpAny_typeOf hTs ?_)
  rw [if_neg (by decide)]
  rw [listSliceParts_eq]
  refine wpAny_bind (wpAny_bind (wpAny_field hos hds (x := .none) rfl (wpAny_bind (wpAny_listPart .none ?_))))
  rw [if_neg (show ¬ ((rawPart none == rawInt 0) = true) from Bool.false_ne_true)]
  refine wpAny_bind (wpAny_field hos hds (x := .none) rfl (wpAny_bind (wpAny_listPart .none ?_)))
  refine wpAny_bind (wpAny_field hos hds (x := .none) rfl (wpAny_bind (wpAny_listPart .none (wpAny_pure ?_))))
  have hsame : Builtin.List.listSameRef (.ref l) (.ref b) = false := by show (l == b) = false; simpa using hne
  dsimp only
  rw [hsame]
  simp only [Bool.false_eq_true, if_false]
  refine wpAny_bind (m := Builtin.List.listAllItems (.ref b) _) ?_
  unfold Builtin.List.listAllItems
  refine wpAny_bind (wpAny_typeOf hTb ?_)
  simp only [beq_self_eq_true, Bool.true_or, if_true]
  refine wp_listItems hob hdb ?_
  refine wpAny_bind (wp_listItems ho rfl ?_)
  refine wpAny_bind (wpAny_of_eq (sliceIndices_raw none none none xs.size (by simp)) ?_)
  rw [sliceBounds_plain]
  dsimp only [Option.elim]
  rw [if_pos (by decide)]
  refine wpAny_bind (wpAny_rule ?_)
  have hlong : Builtin.List.listTooLong (xs.size + new.size) = false := by simp only [Builtin.List.listTooLong, decide_eq_false_iff_not]; omega
  rw [hlong]
  simp only [Bool.false_eq_true, if_false]
  have hf : (xs.extract 0 ((0 : Nat) : Int).toNat ++ new ++ xs.extract (max (((0 : Nat) : Int)) ((xs.size : Nat) : Int)).toNat xs.size) = new := by
    have : (max (((0 : Nat) : Int)) ((xs.size : Nat) : Int)).toNat = xs.size := by omega
    rw [this]; simp
  refine wpAny_bind (m := Builtin.List.listUpdate (.ref l) _) ?_
  show wpAny _ _ (updateSeq l _) _ _ _
  refine wpAny_updateSeq ho rfl ?_ (by omega) (by rw [hf]; omega)
  refine wpAny_bind (wpAny_letGo (wpAny_pure ⟨_, rfl, wpAny_pure ?_⟩))
  have q := PySem.IsL.update (h := s.heap) (l := l) (n := n) ho (fun ys => ys.extract 0 ((0 : Nat) : Int).toNat ++ new ++ ys.extract (max (((0 : Nat) : Int)) ((xs.size : Nat) : Int)).toNat ys.size)
  rw [hf] at q
  exact hQ _ _ q (Heap.SameBut.update ..)

/-- the whole list of the store anew: l[:] = list -/
theorem asg_all {o : Expr} {p pos : Pos} {ds : List D} {P : Rho → Sto → Prop} (h : Ev C A env wr ρ σ o fun e σ₁ => ∃ l vs es, e = .raw (.ref l) ∧ (l, vs, es) ∈ σ₁ ∧ es.length + ds.length ≤ sizeLine ∧ ∀ us, P ρ (updS σ₁ l us ds)) :
    Asg C A env wr ρ σ (.Subscript o (.Slice none none none p) pos) (.list ds) P := by
  constructor
  intro s v ok f r E
  show wpAny C.M A (do
    let ov ← holding [v] (eval o env)
    let iv ← holding [v, ov] (eval (.Slice none none none p) env)
    standAt pos
    holding [v, ov, iv] (setItem ov iv v)
    release [iv, v, ov] []) _ E s
  refine wpAny_bind (wpAny_holding (wpAny_mono (h.run s ok f E) ?_ fun _ _ x => x))
  rintro ov s₁ ⟨_, σ₁, ⟨l, vs, es, rfl, hin, hsz, p₁⟩, r₁, n₁⟩
  cases r₁
  refine wpAny_bind (wpAny_holding (wpAny_Slice ?_))
  rw [evalPart_none]
  refine wpAny_pure (wpAny_pure (wpAny_pure ?_))
  have n₄ := nx_push n₁.ok { cls := .type "slice", data := .fields #[.none, .none, .none] }
  have f₄ := (f.next n₁).next n₄
  have r₄ := (r.next n₁).next n₄
  obtain ⟨n, e, rl⟩ := n₄.ok.at_ _ hin
  cases r₄ with
  | list hl hn rd =>
    rename_i b us
    have e1 : vs.length = es.length := rl.length
    have e2 : us.length = ds.length := rd.length
    refine wpAny_bind (wpAny_standAt (wpAny_bind (wpAny_holding (setItem_all e hl (fun z => hn (by rw [← z]; simp only [Cx.V, List.mem_append]; exact .inl (mem_S hin))) (Heap.IsSliceOf.new ..) (by simp; omega) fun h' n' hl' hb => ?_))))
    obtain ⟨o', le⟩ := store_upd n₄.ok (mem_S hin) hb hl' rd
    have nn : Nx C σ₁ _ (updS σ₁ l us ds) { s₁ with heap := h' } := ⟨o', le, rfl, rfl⟩
    have n5 := (n₁.trans n₄).trans nn
    exact wpAny_release ⟨_, _, p₁ us, n5.nz f, f.next n5⟩

-- is, type
theorem op_is_raw {a b : Value} (hp : plainIs a b = true) (h : P (.bool (a == b)) σ) : Op2 C A (compareOp .Is) (.raw a) (.raw b) σ P := by
  constructor; rintro s _ _ o ⟨⟩ ⟨⟩ E; exact wpAny_is_plain hp ⟨_, _, h, .bool _, .refl o⟩
theorem op_isnot_raw {a b : Value} (hp : plainIs a b = true) (h : P (.bool (!(a == b))) σ) : Op2 C A (compareOp .IsNot) (.raw a) (.raw b) σ P := by
  constructor; rintro s _ _ o ⟨⟩ ⟨⟩ E; exact wpAny_isNot_plain hp ⟨_, _, h, .bool _, .refl o⟩
theorem op_isnot_none (h : P (.bool false) σ) : Op2 C A (compareOp .IsNot) .none .none σ P := by
  constructor; rintro s _ _ o ⟨⟩ ⟨⟩ E; exact wpAny_isNot_self rfl ⟨_, _, h, .bool _, .refl o⟩
theorem op_isnot_str {x : Str} (h : P (.bool true) σ) : Op2 C A (compareOp .IsNot) (.str x) .none σ P := by
  constructor; rintro s _ _ o ⟨⟩ ⟨⟩ E; exact wpAny_isNot_other rfl (by intro z; cases z) ⟨_, _, h, .bool _, .refl o⟩
theorem op_is_str {x : Str} (h : P (.bool false) σ) : Op2 C A (compareOp .Is) (.str x) .none σ P := by
  constructor; rintro s _ _ o ⟨⟩ ⟨⟩ E; exact wpAny_is_other rfl (by intro z; cases z) ⟨_, _, h, .bool _, .refl o⟩
theorem ca_type_str {x : Str} (h : P (.raw (.type "str")) σ) : Ca C A (.type "type") [.str x] [] σ P := by
  refine ca_intro fun s us o r E => ?_
  obtain ⟨_, rfl, r1⟩ := r.inv1
  cases r1
  exact call_type_of (typeIs_str _ _ _) (by decide) ⟨_, _, h, .raw _, .refl o⟩
end
end Mine
namespace Mine

section
variable {C : Cx} {A : Around} {env : Env} {wr : Bool} {ρ : Rho} {σ : Sto} {E : Value → Shared → Prop} {s : Shared} {P : D → Sto → Prop}

theorem Rm.in1 {n : Nat} {A : Around} (r : Rm (n + 1) A) : Rm n A.in1 := ⟨r.1, by have := r.2; show A.depth + n < 600; omega, by have := r.3; show A.units + 1 + 12 * n < 8000; omega⟩

theorem assign_sub_eq (o i : Expr) (pos : Pos) (env : Env) (v : Value) : assign (.Subscript o i pos) env v = (do
    let ov ← holding [v] (eval o env)
    let iv ← holding [v, ov] (eval i env)
    standAt pos
    holding [v, ov, iv] (setItem ov iv v)
    release (match i with | .Slice _ _ none _ => [iv, v, ov] | _ => [v, ov, iv]) []) := rfl
theorem asg_setitem {K : Frag} {Hc x l f : Addr} {o i : Expr} {pos : Pos} {d : D} {P : Rho → Sto → Prop} (X : K.In C.h₀) (T : Tb C Hc x l) (hq : noSeq K Hc = true) (hs : findIn K (.ref Hc) "__setitem__" = some (some (.ref f))) (hf : typeIn K (.ref f) = some (.type "function"))
    (h : Ev C A env wr ρ σ o fun e σ₁ => e = .raw (.ref x) ∧ Ev C A env wr ρ σ₁ i fun k σ₂ => Ca C A (.ref f) [.raw (.ref x), k, d] [] σ₂ fun _ σ₃ => P ρ σ₃) : Asg C A env wr ρ σ (.Subscript o i pos) d P := by
  constructor
  intro s v ok fm r E
  rw [assign_sub_eq]
  refine wpAny_bind (wpAny_holding (wpAny_mono (h.run s ok fm E) ?_ fun _ _ x => x))
  rintro ov s₁ ⟨_, σ₁, ⟨rfl, h₁⟩, r₁, n₁⟩
  cases r₁
  refine wpAny_bind (wpAny_holding (wpAny_mono (h₁.run s₁ n₁.ok (fm.next n₁) E) ?_ fun _ _ x => x))
  rintro iv s₂ ⟨k, σ₂, h₂, r₂, n₂⟩
  refine wpAny_bind (wpAny_standAt (wpAny_bind (wpAny_holding ?_)))
  obtain ⟨ox, hsh, t, n, I, _⟩ := T.inst n₂.ok
  have X' := X.keeps n₂.ok.base
  unfold setItem sequenceKey
  refine wpAny_holding (wpAny_bind (wpAny_bind (I.type.here ?_)))
  refine wpAny_bind ((anyM_none X' hq).here ?_)
  rw [if_pos (show (!false) = true from rfl)]
  refine wpAny_pure (wpAny_bind (special_fn X' I hs hf (wpAny_mono (h₂.run s₂ [.ref x, iv, v] [] n₂.ok (.cons (.raw _) (.cons r₂ (.cons ((r.next n₁).next n₂) .nil))) .nil E) ?_ fun _ _ z => z)))
  rintro u s₃ ⟨_, σ₃, p₃, _, n₃⟩
  have nn := (n₁.trans n₂).trans n₃
  exact wpAny_pure (wpAny_release ⟨ρ, σ₃, p₃, nn.nz fm, fm.next nn⟩)

theorem ex1_delitem {K : Frag} {Hc x l f : Addr} {o i : Expr} {pos pos' : Pos} {P : Fl → Rho → Sto → Prop} (X : K.In C.h₀) (T : Tb C Hc x l) (hq : noSeq K Hc = true) (hs : findIn K (.ref Hc) "__delitem__" = some (some (.ref f))) (hf : typeIn K (.ref f) = some (.type "function"))
    (h : Ev C A env wr ρ σ o fun e σ₁ => e = .raw (.ref x) ∧ Ev C A env wr ρ σ₁ i fun k σ₂ => Ca C A (.ref f) [.raw (.ref x), k] [] σ₂ fun _ σ₃ => P .nx ρ σ₃) : Ex1 C A env wr ρ σ (.Delete [.Subscript o i pos] pos') P := by
  constructor
  intro s ok fm E
  refine wpAny_Delete (wpAny_deleteEach_cons (wpAny_delete_Subscript (wpAny_mono (h.run s ok fm E) ?_ fun _ _ x => x)))
  rintro ov s₁ ⟨_, σ₁, ⟨rfl, h₁⟩, r₁, n₁⟩
  cases r₁
  refine wpAny_mono (h₁.run s₁ n₁.ok (fm.next n₁) E) ?_ fun _ _ x => x
  rintro iv s₂ ⟨k, σ₂, h₂, r₂, n₂⟩
  obtain ⟨ox, hsh, t, n, I, _⟩ := T.inst n₂.ok
  have X' := X.keeps n₂.ok.base
  unfold delItem sequenceKey
  refine wpAny_holding (wpAny_bind (wpAny_bind (I.type.here ?_)))
  refine wpAny_bind ((anyM_none X' hq).here ?_)
  rw [if_pos (show (!false) = true from rfl)]
  refine wpAny_pure (wpAny_bind (special_fn X' I hs hf (wpAny_mono (h₂.run s₂ [.ref x, iv] [] n₂.ok (.cons (.raw _) (.cons r₂ .nil)) .nil E) ?_ fun _ _ z => z)))
  rintro u s₃ ⟨_, σ₃, p₃, _, n₃⟩
  have nn := (n₁.trans n₂).trans n₃
  exact wpAny_pure (wpAny_deleteEach_nil ⟨.nx, ρ, σ₃, p₃, .nx, nn.nz fm, fm.next nn⟩)

end

-- the regular expressions: a search that finds nothing
theorem plainAttrs_re : PlainAttrs "re.Pattern" :=
  ⟨⟨"object.__getattribute__", by rw [typeLookup_type, builtinLookup_eq_fast]; kernel_rfl, by decide +kernel⟩, by rw [typeLookup_type, builtinLookup_eq_fast]; kernel_rfl⟩
theorem slot_re_search : Slot "re.Pattern" "search" "re.Pattern.search" :=
  .of (owner := "re.Pattern") (n := "search") (by rw [typeLookup_type, builtinLookup_eq_fast]; kernel_rfl) (by decide +kernel) (by decide +kernel) (by decide +kernel)
    (by first | exact .inl (by decide +kernel) | exact .inr (by decide +kernel)) (by rw [isSubtype_type]; kernel_rfl)
theorem entry_re_search : entryFor table "re.Pattern.search" = some Builtin.«re.Pattern.search» := entryFor_of_tree (by kernel_rfl)
theorem args_re_search (a b : Value) : argsOk "re.Pattern.search" ⟨[a, b], []⟩ := by unfold argsOk; kernel_rfl
theorem type_re_search : typeOf (.builtin "re.Pattern.search") = pure (.type "method_descriptor") := by show builtinType _ = _; rw [builtinType_eq_fast]; kernel_rfl

/-- a text without control signs -/
noncomputable def clean (x : Str) : Prop := ∀ c ∈ x.cps.toList, 32 ≤ c ∧ c ≠ 127
theorem re_named (v : Value) : Builtin.Re.reNamed "re.Pattern.search" "search" ["string", "pos", "endpos"] 1 [v] [] = pure [some v, none, none] := by kernel_rfl

theorem admitted_none {m : Sre.M} (h : ∀ i, i < m.lim → ∀ seen, ∃ seen', Sre.inSet m.code (m.text.getD i 0) m.code.size 5 true seen = .ok (false, seen')) : ∀ (fuel i : Nat) (seen : Sre.Seen), ∃ seen', m.admitted fuel i seen = .ok (none, seen')
  | 0, i, seen => ⟨seen, rfl⟩
  | fuel + 1, i, seen => by
    unfold Sre.M.admitted
    by_cases hi : i ≥ m.lim
    · rw [if_pos hi]; exact ⟨_, rfl⟩
    · rw [if_neg hi]
      obtain ⟨seen', e⟩ := h i (by omega) seen
      rw [e]
      exact admitted_none h fuel (i + 1) seen'

/-- a code that names its first signs, and a text that has none of them -/
structure Misses (code text : Array Nat) : Prop where
  set : ∀ i, i < text.size → ∀ seen, ∃ seen', Sre.inSet code (text.getD i 0) code.size 5 true seen = .ok (false, seen')
  first : ((match Sre.ops[code.getD 0 0]? with | some .INFO => true | _ => false) && code.getD 2 0 == 4) = true
theorem attempt_fails {m : Sre.M} {i : Nat} (hc : m.hasFirstSet = true) (h : ∀ i, i < m.lim → ∀ seen, ∃ seen', Sre.inSet m.code (m.text.getD i 0) m.code.size 5 true seen = .ok (false, seen')) (hf : m.frames = []) (ho : m.outcome = none) :
    (m.attemptFrom i true).answer = some false ∧ (m.attemptFrom i true).frames = [] ∧ (m.attemptFrom i true).outcome = none := by
  unfold Sre.M.attemptFrom
  rw [hc]
  obtain ⟨seen', e⟩ := admitted_none h (m.lim + 1 - i) i m.seen
  simp only [Bool.not_true, Bool.false_eq_true, if_false, e]
  exact ⟨rfl, hf, ho⟩
theorem search_fails {code text : Array Nat} {groups : Nat} (M : Misses code text) : (Sre.forSearch code text groups 0 text.size false).answer = some false ∧ (Sre.forSearch code text groups 0 text.size false).frames = [] ∧ (Sre.forSearch code text groups 0 text.size false).outcome = none := by
  unfold Sre.forSearch
  dsimp only
  split
  · exact ⟨rfl, rfl, rfl⟩
  · exact attempt_fails M.first M.set rfl rfl
theorem runFor_fails {m : Sre.M} (ha : m.answer = some false) (hf : m.frames = []) (ho : m.outcome = none) : (m.runFor 4).outcome = some .failed := by
  have h1 : m.step = { m with outcome := some .failed } := by
    unfold Sre.M.step
    simp only [ho, ha, hf, Option.isSome_none, Bool.false_eq_true, if_false]
  unfold Sre.M.runFor
  simp only [ho, Option.isSome_none, Bool.false_eq_true, if_false, h1]
  unfold Sre.M.runFor
  simp only [Option.isSome_some, if_true]
theorem wp_reRun {M : Model} {A : Around} {E : Value → Shared → Prop} {s : Shared} {m : Sre.M} {Q : Option Sre.M → Shared → Prop} (hm : (m.runFor 4).outcome = some .failed) (h : Q none s) : wpAny M A (Builtin.Re.reRunToEnd m) Q E s := by
  unfold Builtin.Re.reRunToEnd
  have hd : Builtin.Re.reDrive (2 ^ 64) m = pure (m.runFor 4) := by
    rw [show (2 : Nat) ^ 64 = (2 ^ 64 - 1) + 1 from by decide]
    unfold Builtin.Re.reDrive
    show (if (m.runFor 4).outcome.isSome = true then pure (m.runFor 4) else _) = _
    rw [hm]; rfl
  rw [hd]
  refine wpAny_bind (wpAny_pure (wpAny_bind ?_))
  refine wpAny_forIn_list _ (fun _ _ s' => s' = s) _ ?_ ?_ _ _ rfl
  · rintro x rest b s' rfl
    split
    · exact wpAny_bind (wpAny_rule (wpAny_pure rfl))
    · exact wpAny_pure rfl
  · rintro b s' rfl
    rw [hm]
    exact wpAny_pure h

section
variable {C : Cx} {A : Around} {σ : Sto} {P : D → Sto → Prop}
theorem gm_search {a : Addr} {o : Obj} (ho : C.h₀.get? a = some o) (hc : o.cls = .type "re.Pattern") (hd : o.dict = none) : Gm C A (.raw (.ref a)) "search" (.builtin "re.Pattern.search") σ := by
  constructor
  rintro s _ pl ok ⟨⟩ E Q h
  exact getMethod_builtin ⟨_, ok.base _ _ ho, hc⟩ plainAttrs_re slot_re_search type_re_search (fun b q => by cases q; exact ⟨_, ok.base _ _ ho, hd⟩) h
theorem ca_search {a b : Addr} {fs items : Array Value} {n : Nat} {x : Str} (ho : C.h₀.get? a = some { cls := .type "re.Pattern", data := .fields fs }) (h5 : fs.getD 5 .none = .ref b) (h6 : Builtin.Re.reRawNat (fs.getD 6 .none) = 0)
    (hb : C.h₀.get? b = some { cls := .type "tuple", data := .seq items n }) (hx : Misses ((items.map Builtin.Re.reRawOf).map (·.toNat)) x.cps) (hsz : x.length < 2 ^ 62)
    (h : P .none σ) : Ca C A (.builtin "re.Pattern.search") [.raw (.ref a), .str x] [] σ P := by
  refine ca_intro fun s vs ok r E => ?_
  obtain ⟨_, _, rfl, r1, r2⟩ := r.inv2
  cases r1
  cases r2 with
  | str _ t =>
  refine wpAny_call_entry slot_re_search ⟨_, ok.base _ _ ho, rfl⟩ entry_re_search ?_ (args_re_search _ _)
  unfold Builtin.«re.Pattern.search» Builtin.Re.reTarget
  refine wpAny_bind ?_
  dsimp only
  rw [re_named]
  refine wpAny_bind (wpAny_pure ?_)
  dsimp only
  refine wpAny_bind (wpAny_pure (wpAny_bind (wpAny_pure ?_)))
  refine wpAny_bind (wpAny_fieldsOf (ok.base _ _ ho) rfl ?_)
  refine wpAny_bind (m := Builtin.Re.reTextOf (.str x t)) (wpAny_of_eq (a := (x.cps, 0)) rfl ?_)
  rw [h6, h5]
  simp only [show ((0 : Nat) == 1) = false from rfl, Bool.and_false, Bool.false_and, Bool.false_eq_true, if_false]
  refine wpAny_bind (m := Builtin.Re.reNoCollectionInside (.str x t) 0) (wpAny_of_eq (a := ()) rfl ?_)
  refine wpAny_bind (m := Builtin.Re.reRawItems (.ref b)) ?_
  unfold Builtin.Re.reRawItems
  refine wpAny_bind (wpAny_seqItems (ok.base _ _ hb) rfl (wpAny_pure (wpAny_pure ?_)))
  unfold Builtin.Re.reAnswer
  have e1 : min (Int.toNat 0) x.cps.size = 0 := by simp
  have e2 : min ((2 : Int) ^ 63 - 1).toNat x.cps.size = x.cps.size := by
    have : x.cps.size < 2 ^ 62 := hsz
    omega
  simp only [Option.getD_some, e1, e2]
  obtain ⟨a1, a2, a3⟩ := search_fails (groups := Builtin.Re.reRawNat (fs.getD 2 Value.none)) hx
  refine wpAny_bind (wp_reRun (runFor_fails a1 a2 a3) ?_)
  exact wpAny_pure ⟨_, rfl, _, _, h, .none, .refl ok⟩
end
end Mine
namespace Mine

/-- more objects that stay as they are -/
noncomputable def Cx.pin (C : Cx) (ps : List (Addr × Obj)) : Cx := { C with pins := ps ++ C.pins }

section
variable {C : Cx} {A : Around} {env : Env} {wr : Bool} {ρ : Rho} {σ : Sto} {E : Value → Shared → Prop} {s : Shared} {P : D → Sto → Prop}

/-- an empty list that is to be changed -/
theorem ev_nil_mut {pos : Pos} (h : ∀ l, l ∉ σ.S → P (.raw (.ref l)) ((l, [], []) :: σ)) : Ev C A env wr ρ σ (.List [] pos) P := by
  constructor
  intro s o f E
  refine List_ (spliced_nil (wpAny_newList ?_ (by decide)))
  obtain ⟨fr, nS⟩ := free_of_size o (Nat.le_refl _)
  have e := Heap.get?_push_size s.heap (o := { cls := .type "list", data := .seq ([] : List Value).toArray }) rfl
  have k : ∀ a x, s.heap.get? a = some x → (s.heap.push { cls := .type "list", data := .seq ([] : List Value).toArray }).get? a = some x := fun a x q => Heap.get?_push_of_some _ q
  have le : Le s.heap σ.S (s.heap.push { cls := .type "list", data := .seq ([] : List Value).toArray }) (s.heap.objs.size :: σ.S) := fun a x q n => ⟨k a x q, fun hm => (List.mem_cons.mp hm).elim (fun z => by rw [z] at q; exact absurd (Heap.lt_size q) (Nat.lt_irrefl _)) n⟩
  have sq : Seqs s.heap (C.V σ) (s.heap.push { cls := .type "list", data := .seq ([] : List Value).toArray }) (C.V ((s.heap.objs.size, [], []) :: σ)) := Le.v (σ' := (s.heap.objs.size, [], []) :: σ) le
  refine ⟨_, _, h s.heap.objs.size nS, .raw _, ⟨⟨fun a x q => k a x (o.base a x q), fun p hp => k _ _ (o.pin p hp), fun p hp => ?_, fun p hp => ?_, List.nodup_cons.mpr ⟨nS, o.nd⟩, fun a ha => (o.zs a ha).imp fun x q => k _ _ q⟩, le, rfl, rfl⟩⟩
  · rcases List.mem_cons.mp hp with rfl | hp
    · exact fr
    · exact o.off p hp
  · rcases List.mem_cons.mp hp with rfl | hp
    · exact ⟨_, e, .nil⟩
    · obtain ⟨n, q, r⟩ := o.at_ p hp
      exact ⟨n, k _ _ q, r.mono sq⟩
theorem ca_type_store {l : Addr} {vs : List Value} {ds : List D} (hin : (l, vs, ds) ∈ σ) (h : P (.raw (.type "list")) σ) : Ca C A (.type "type") [.raw (.ref l)] [] σ P := by
  refine ca_intro fun s us o r E => ?_
  obtain ⟨_, rfl, r1⟩ := r.inv1
  cases r1
  obtain ⟨n, e, _⟩ := o.at_ _ hin
  exact call_type_of (Tx := "list") ⟨_, e, rfl⟩ (by decide) ⟨_, _, h, .raw _, .refl o⟩
/-- the dict entry under which the list lies -/
abbrev hdDict (hsh : Int) (t : Tok) (l : Addr) (n : Nat) : Obj := dictOf [⟨hsh, .str "_headers" t, .ref l⟩] n

theorem setattr_raw {K : Frag} {Hc x dx l : Addr} {Q : Unit → Shared → Prop} (X : K.In s.heap) (I : InstAt s.heap x (instObj Hc dx) Hc (some (dictOf [] 0))) (hs : findIn K (.ref Hc) "__setattr__" = some (some (.builtin "object.__setattr__")))
    (hp : plainOver K Hc = true) (ht : takerIn K Hc "_headers" = some none) (hh : (clsIn K Hc).any (·.hasDict) = true) {prog : Program} {w : World}
    (h : ∀ h' hsh t n tk, h'.get? dx = some (hdDict hsh t l n) → Heap.SameBut dx s.heap h' → Q () { s with heap := h', toks := tk }) : wpAny (model prog w) A (setAttr (.ref x) "_headers" (.ref l)) Q E s := by
  refine set_plain X I hs (osa_open (s := { s with toks := s.toks + 1 }) X I hp ht fun b => ?_)
  obtain ⟨cd, hc, hd'⟩ := any_some hh
  have hx := I.at_
  have hd : s.heap.get? dx = some (dictOf [] 0) := I.dict
  refine wpAny_bind (wpAny_pure (wpAny_bind (wpAny_bind (wpAny_loadPart hx (wpAny_bind (Looks.here (s := { s with toks := s.toks + 1 }) (looks_clsIn X hc) ?_))))))
  rw [hd']
  refine wpAny_pure (a := some dx) (wpAny_bind (wpAny_pure (wpAny_bind ?_)))
  unfold nsSet
  refine wpAny_bind (wpAny_bind (wpAny_askSetting (wpAny_pure (wpAny_bind (wpAny_mkText (wpAny_bind (wpAny_loadPart hd ?_)))))))
  dsimp only
  rw [aRefKeyMayBeTheName_at]
  have hu : ∀ hsh tk, (s.heap.update dx (Obj.putName "_headers" hsh (.str "_headers" tk) (.ref l))).get? dx = some (hdDict hsh tk l 1) := fun hsh tk => by
    rw [Heap.get?_update_self _ hd (by rw [putName_dict]; rfl), putName_dict]; rfl
  rw [if_neg (by simp)]
  refine wpAny_updatePart (s := { s with toks := s.toks + 1 + 1 }) hd ?_
  refine wpAny_bind (wpAny_lookBehind (hu _ _) (pastItsLine_dict (by rw [List.size_toArray, sizeLine_eq]; simp)) ?_)
  exact wpAny_pure (h _ _ _ _ _ (hu _ _) (Heap.SameBut.update ..))

theorem pin_ok {x dx : Addr} {ob od : Obj} {h h' : Heap} (o : Ok C σ h) (k : ∀ a q, h.get? a = some q → h'.get? a = some q) (hx : h.get? x = none) (hd : h.get? dx = none) (hx' : h'.get? x = some ob) (hd' : h'.get? dx = some od) :
    Ok (C.pin [(x, ob), (dx, od)]) σ h' := by
  have o' := o.keeps k
  refine ⟨o'.base, fun p hp => ?_, fun p hp => ?_, o'.at_, o'.nd, o'.zs⟩
  · rcases List.mem_append.mp hp with hp | hp
    · simp only [List.mem_cons, List.not_mem_nil, or_false] at hp
      rcases hp with rfl | rfl
      · exact hx'
      · exact hd'
    · exact o'.pin p hp
  · have fr := o.off p hp
    obtain ⟨n, e, _⟩ := o.at_ p hp
    refine ⟨fr.1, fun q hq => ?_, fr.2.2⟩
    rcases List.mem_append.mp hq with hq | hq
    · simp only [List.mem_cons, List.not_mem_nil, or_false] at hq
      rcases hq with rfl | rfl
      · intro z; rw [← z, hx] at e; cases e
      · intro z; rw [← z, hd] at e; cases e
    · exact fr.2.1 q hq
theorem unpin_ok {ps : List (Addr × Obj)} {h : Heap} (o : Ok (C.pin ps) σ h) : Ok C σ h :=
  ⟨o.base, fun p hp => o.pin p (List.mem_append_right _ hp), fun p hp => ⟨(o.off p hp).1, fun q hq => (o.off p hp).2.1 q (List.mem_append_right _ hq), (o.off p hp).2.2⟩, o.at_, o.nd, o.zs⟩
theorem unpin_fm {ps : List (Addr × Obj)} {h : Heap} (f : Fm (C.pin ps) σ h env wr ρ) : Fm C σ h env wr ρ :=
  ⟨f.has, f.kind, f.glob, f.blt, ⟨⟨f.offL.1.1, fun q hq => f.offL.1.2.1 q (List.mem_append_right _ hq), f.offL.1.2.2⟩, f.offL.2⟩, fun x c hc => by
    obtain ⟨a, b, c', d⟩ := f.cells x c hc
    exact ⟨a, b, c', fun w => ⟨(d w).1, fun q hq => (d w).2.1 q (List.mem_append_right _ hq), (d w).2.2⟩⟩, f.apart⟩
theorem pin_fm {x dx : Addr} {ob od : Obj} {h : Heap} (f : Fm C σ h env wr ρ) (nx : ¬ Own env x) (nd : ¬ Own env dx) : Fm (C.pin [(x, ob), (dx, od)]) σ h env wr ρ := by
  have fr : ∀ a, C.Free a → a ≠ x → a ≠ dx → (C.pin [(x, ob), (dx, od)]).Free a := fun a h1 h2 h3 => ⟨h1.1, fun q hq => by
    rcases List.mem_append.mp hq with hq | hq
    · simp only [List.mem_cons, List.not_mem_nil, or_false] at hq
      rcases hq with rfl | rfl
      · exact Ne.symm h2
      · exact Ne.symm h3
    · exact h1.2.1 q hq, h1.2.2⟩
  refine ⟨f.has, f.kind, f.glob, f.blt, ⟨fr _ f.offL.1 (fun z => nx (.inl z.symm)) (fun z => nd (.inl z.symm)), f.offL.2⟩, fun y c hc => ?_, f.apart⟩
  obtain ⟨a, b, c', d⟩ := f.cells y c hc
  exact ⟨a, b, c', fun w => fr _ (d w) (fun z => nx (.inr ⟨y, z ▸ hc⟩)) fun z => nd (.inr ⟨y, z ▸ hc⟩)⟩

/-- t = Headers(): from here on the object is one of the pinned objects and its list lies in the store -/
theorem ex_table {K : Frag} {Hc fI : Addr} {fd : FuncData} {s1 s2 s4 : Stmt} {p1 p2 p3 p4 : Pos} {t hn : Str} {pt p pos pos2 : Pos} {rest : List Stmt} {P : Fl → Rho → Sto → Prop} {n : Nat} (rm : Rm (n + 3) A) (X : K.In C.h₀)
    (hg : C.mg hn = some (.ref Hc)) (hkn : env.kindOf hn = some .globalImplicit) (hdb : (hn == ("__debug__" : Str)) = false) (hst : CanSt env wr t) (hsw : swapsWith (.Call (.Name hn p) [] [] pos) (some (.Name t pt)) pos2.line env = pure false)
    (hkp : keepIn K (.ref Hc) = true) (hm : makesIn K Hc = true) (hi : findIn K (.ref Hc) "__init__" = some (some (.ref fI))) (hf : typeIn K (.ref fI) = some (.type "function"))
    (F : FnAt C fI fd [s1, s2, .Assign [.Attribute (.Name "self" p1) "_headers" p2] (.Name "headers" p3) p4, s4])
    (hb : ∀ C' : Cx, ∀ (a : D) (σ : Sto) (R : Rho → Sto → Prop), C'.h₀ = C.h₀ → R [("self", a), ("headers", .none)] σ → Bnd C' fd [a] [] σ R) (hbk : bindsOk fd ["self", "headers"] = true)
    (hs : findIn K (.ref Hc) "__setattr__" = some (some (.builtin "object.__setattr__"))) (hp : plainOver K Hc = true) (ht : takerIn K Hc "_headers" = some none) (hh : (clsIn K Hc).any (·.hasDict) = true)
    (hsw3 : ∀ L, swapsWith (.Name "headers" p3) (some (.Attribute (.Name "self" p1) "_headers" p2)) p4.line (fenv fd fI L) = pure false)
    (h12 : ∀ (C1 : Cx) (A1 : Around) (L x : Addr), C1.h₀ = C.h₀ → C1.mg = C.mg → C1.w = C.w → Rm n A1 → Ex1 C1 A1 (fenv fd fI L) true [("self", .raw (.ref x)), ("headers", .none)] σ s1 fun fl ρ' σ' => fl = .nx ∧
      Ex1 C1 A1 (fenv fd fI L) true ρ' σ' s2 fun fl ρ'' σ'' => fl = .nx ∧ ∃ l, ρ''.lookup ("self" : Str) = some (.raw (.ref x)) ∧ ρ''.lookup ("headers" : Str) = some (.raw (.ref l)) ∧ σ'' = (l, [], []) :: σ)
    (h4 : ∀ (C2 : Cx) (A1 : Around) (L l : Addr) (ρ'' : Rho), C2.h₀ = C.h₀ → C2.mg = C.mg → C2.w = C.w → Rm n A1 → ρ''.lookup ("headers" : Str) = some (.raw (.ref l)) → Ex1 C2 A1 (fenv fd fI L) true ρ'' ((l, [], []) :: σ) s4 fun fl _ σ'' => fl = .nx ∧ σ'' = (l, [], []) :: σ)
    (h : ∀ ps x l, Tb (C.pin ps) Hc x l → Ex (C.pin ps) A env wr (setR ρ t (.raw (.ref x))) ((l, [], []) :: σ) rest P) :
    Ex C A env wr ρ σ (.Assign [.Name t pt] (.Call (.Name hn p) [] [] pos) pos2 :: rest) P := by
  constructor
  intro s o f E
  refine wpAny_execs_cons (wpAny_Assign_Name (wpAny_Call_Name_kw (wpAny_mono ((ev_global (A := A) (wr := wr) (ρ := ρ) (σ := σ) (P := fun d σ₁ => d = .raw (.ref Hc) ∧ σ = σ₁) hg ⟨rfl, rfl⟩ hkn hdb).run s o f E) ?_ fun _ _ x => x)) hsw)
  rintro _ s₁ ⟨_, _, ⟨rfl, rfl⟩, r₁, n₁⟩
  cases r₁
  have f₁ := f.next n₁
  have X₁ := X.keeps n₁.ok.base
  refine callWith_K0 X₁ hkp (wpAny_call ?_)
  obtain ⟨h₁, g₁, d₁, tk₁, os₁⟩ := s₁
  dsimp only at *
  refine make_core (makes_of X₁ hm) (looks_findIn X₁ hi) (fun self => bind_fn X₁ self hf) (.inl rfl) ?_
  have kx : ∀ a q, h₁.get? a = some q → ((h₁.push emptyDict).push (instObj Hc h₁.objs.size)).get? a = some q := fun a q e => Heap.get?_push_of_some _ (Heap.get?_push_of_some _ e)
  have ex : ((h₁.push emptyDict).push (instObj Hc h₁.objs.size)).get? (h₁.objs.size + 1) = some (instObj Hc h₁.objs.size) := by
    have := Heap.get?_push_size (h₁.push emptyDict) (o := instObj Hc h₁.objs.size) rfl
    rwa [Heap.size_push] at this
  have edx : ((h₁.push emptyDict).push (instObj Hc h₁.objs.size)).get? h₁.objs.size = some (dictOf [] 0) := Heap.get?_push_of_some _ (Heap.get?_push_size _ rfl)
  have nx : h₁.get? (h₁.objs.size + 1) = none := by
    cases e : h₁.get? (h₁.objs.size + 1) with
    | none => rfl
    | some q => exact absurd (Heap.lt_size e) (Nat.not_lt.mpr (Nat.le_succ _))
  have ndx : h₁.get? h₁.objs.size = none := none_at_size
  have o' : Ok (C.pin [(h₁.objs.size + 1, instObj Hc h₁.objs.size), (h₁.objs.size, dictOf [] 0)]) σ ((h₁.push emptyDict).push (instObj Hc h₁.objs.size)) := pin_ok n₁.ok kx nx ndx ex edx
  have hxd : h₁.objs.size + 1 ≠ h₁.objs.size := by omega
  have rmU : Rm n ((A.under (.builtin "type.__call__" ⟨.ref Hc :: [], []⟩)).deeper (fenv fd fI 0)) ∧ Rm (n + 1) (A.under (.builtin "type.__call__" ⟨.ref Hc :: [], []⟩)) := by
    have h1 := rm.depth
    have h2 := rm.units
    have e1 : (Code.builtin "type.__call__" ⟨.ref Hc :: [], []⟩).weight = 1 := rfl
    have e2 : (Code.builtin "type.__call__" ⟨.ref Hc :: [], []⟩).cUnits = 1 := rfl
    have q : Rm (n + 1) (A.under (.builtin "type.__call__" ⟨.ref Hc :: [], []⟩)) := ⟨rm.handled, by show A.depth + _ + (n + 1) < 600; rw [e1]; omega, by show A.units + _ + 12 * (n + 1) < 8000; rw [e2]; omega⟩
    exact ⟨q.deeper _, q⟩
  have rmD : ∀ L, Rm n ((A.under (.builtin "type.__call__" ⟨.ref Hc :: [], []⟩)).deeper (fenv fd fI L)) := fun L => rmU.2.deeper _
  refine fun_entry (C := C.pin [(h₁.objs.size + 1, instObj Hc h₁.objs.size), (h₁.objs.size, dictOf [] 0)]) (σ := σ) (args := [.raw (.ref (h₁.objs.size + 1))]) (kw := []) (vs := [.ref (h₁.objs.size + 1)]) (ks := [])
    (R := fun ρ₀ σ₁ => ρ₀ = ([("self", .raw (.ref (h₁.objs.size + 1))), ("headers", .none)] : Rho) ∧ σ = σ₁) rmU.2 ⟨F.get, F.code, F.body, F.plain⟩ o' (.cons (.raw _) .nil) .nil (hb _ _ _ _ rfl ⟨hbk, rfl, rfl⟩) ?_
  rintro _ _ L s₂ ⟨rfl, rfl⟩ n₂ fm₂ own₂
  -- the first two statements
  refine wpAny_execs_cons (wpAny_mono ((h12 (C.pin [(h₁.objs.size + 1, instObj Hc h₁.objs.size), (h₁.objs.size, dictOf [] 0)]) _ L _ rfl rfl rfl (rmD L)).run s₂ n₂.ok fm₂ _) ?_ fun _ _ q => q)
  rintro fl s₃ ⟨l₃, ρ₃, σ₃, ⟨rfl, e2⟩, rf, nz₃, fm₃⟩
  cases rf
  refine wpAny_execs_cons (wpAny_mono (e2.run s₃ nz₃.ok fm₃ _) ?_ fun _ _ q => q)
  rintro fl s₄ ⟨l₄, ρ₄, _, ⟨rfl, l, eself, ehd, rfl⟩, rf, nz₄, fm₄⟩
  cases rf
  have nz := nz₃.trans nz₄
  -- the store of the attribute
  refine wpAny_execs_cons (plainObj_wpAny_Assign_Attribute ?_ (hsw3 L))
  refine wpAny_mono ((ev_var (A := (A.under (.builtin "type.__call__" ⟨.ref Hc :: [], []⟩)).deeper (fenv fd fI L)) (wr := true) (P := fun d σ' => d = .raw (.ref l) ∧ σ' = (l, [], []) :: σ) ehd ⟨rfl, rfl⟩).run s₄ nz₄.ok fm₄ _) ?_ fun _ _ q => q
  rintro _ s₅ ⟨_, _, ⟨rfl, rfl⟩, r₅, n₅⟩
  cases r₅
  refine wpAny_mono ((ev_var (A := (A.under (.builtin "type.__call__" ⟨.ref Hc :: [], []⟩)).deeper (fenv fd fI L)) (wr := true) (P := fun d σ' => d = .raw (.ref (h₁.objs.size + 1)) ∧ σ' = (l, [], []) :: σ) eself ⟨rfl, rfl⟩).run s₅ n₅.ok (fm₄.next n₅) _) ?_ fun _ _ q => q
  rintro _ s₆ ⟨_, _, ⟨rfl, rfl⟩, r₆, n₆⟩
  cases r₆
  have fm₆ := (fm₄.next n₅).next n₆
  have nz₆ := (nz.trans (n₅.nz fm₄)).trans (n₆.nz (fm₄.next n₅))
  have o₆ := n₆.ok
  have I₆ : InstAt s₆.heap (h₁.objs.size + 1) (instObj Hc h₁.objs.size) Hc (some (dictOf [] 0)) := ⟨o₆.pin (h₁.objs.size + 1, instObj Hc h₁.objs.size) (by simp [Cx.pin]), rfl, rfl, o₆.pin (h₁.objs.size, dictOf [] 0) (by simp [Cx.pin])⟩
  refine setattr_raw (X.keeps o₆.base) I₆ hs hp ht hh fun h₇ hsh t₇ n₇ tk₇ e₇ hb₇ => ?_
  -- the objects as they stand now
  have frdx : C.Free h₁.objs.size := (free_of_none n₁.ok ndx).1
  have ed₆ : s₆.heap.get? h₁.objs.size = some (dictOf [] 0) := I₆.dict
  have nfdx : ∀ q, s₆.heap.get? h₁.objs.size = some q → ¬ Frz q := fun q e z => by
    rw [ed₆] at e; cases e
    rcases z with ⟨_, _, z⟩ | ⟨⟨_, z⟩, _⟩ <;> cases z
  have dxS : h₁.objs.size ∉ Sto.S ((l, [], []) :: σ) := fun hm => by
    obtain ⟨q, hq, e⟩ := List.mem_map.mp hm
    exact (o₆.off q hq).2.1 (h₁.objs.size, dictOf [] 0) (by simp [Cx.pin]) e.symm
  have ownd : ¬ Own (fenv fd fI L) h₁.objs.size := own₂ _ _ edx fun hm => by
    obtain ⟨q, hq, e⟩ := List.mem_map.mp hm
    exact (o'.off q hq).2.1 (h₁.objs.size, dictOf [] 0) (by simp [Cx.pin]) e.symm
  obtain ⟨oC₇, sq₇⟩ := upd_keep (unpin_ok o₆) frdx dxS (fun b q hne e => (hb₇.2 b hne).trans e) nfdx
  have o₇ : Ok (C.pin [(h₁.objs.size + 1, instObj Hc h₁.objs.size), (h₁.objs.size, hdDict hsh t₇ l n₇)]) ((l, [], []) :: σ) h₇ := by
    refine ⟨oC₇.base, fun q hq => ?_, fun q hq => ?_, oC₇.at_, oC₇.nd, oC₇.zs⟩
    · rcases List.mem_append.mp hq with hq | hq
      · simp only [List.mem_cons, List.not_mem_nil, or_false] at hq
        rcases hq with rfl | rfl
        · exact (hb₇.2 _ hxd).trans I₆.at_
        · exact e₇
      · exact oC₇.pin q hq
    · have fr := o₆.off q hq
      refine ⟨fr.1, fun u hu => ?_, fr.2.2⟩
      rcases List.mem_append.mp hu with hu | hu
      · simp only [List.mem_cons, List.not_mem_nil, or_false] at hu
        rcases hu with rfl | rfl
        · exact fr.2.1 (h₁.objs.size + 1, instObj Hc h₁.objs.size) (by simp [Cx.pin])
        · exact fr.2.1 (h₁.objs.size, dictOf [] 0) (by simp [Cx.pin])
      · exact fr.2.1 u (List.mem_append_right _ hu)
  have ownx : ¬ Own (fenv fd fI L) (h₁.objs.size + 1) := own₂ _ _ ex fun hm => by
    obtain ⟨q, hq, e⟩ := List.mem_map.mp hm
    exact (o'.off q hq).2.1 (h₁.objs.size + 1, instObj Hc h₁.objs.size) (by simp [Cx.pin]) e.symm
  have fm₇ : Fm (C.pin [(h₁.objs.size + 1, instObj Hc h₁.objs.size), (h₁.objs.size, hdDict hsh t₇ l n₇)]) ((l, [], []) :: σ) h₇ (fenv fd fI L) true ρ₄ :=
    pin_fm ((unpin_fm fm₆).but (fun b q hne e => (hb₇.2 b hne).trans e) ownd sq₇) ownx ownd
  refine wpAny_execs_cons (wpAny_mono ((h4 (C.pin [(h₁.objs.size + 1, instObj Hc h₁.objs.size), (h₁.objs.size, hdDict hsh t₇ l n₇)]) _ L l ρ₄ rfl rfl rfl (rmD L) ehd).run _ o₇ fm₇ _) ?_ fun _ _ q => q)
  rintro fl s₈ ⟨l₈, ρ₈, _, ⟨rfl, rfl⟩, rf, nz₈, fm₈⟩
  cases rf
  refine wpAny_execs_nil ?_
  refine ⟨rfl, ?_⟩
  -- back in the frame that asked
  have le18 : ∀ a q, h₁.get? a = some q → a ∉ σ.S → s₈.heap.get? a = some q ∧ a ∉ Sto.S ((l, [], []) :: σ) := fun a q e hS => by
    have e' := kx a q e
    have ow := own₂ a q e' hS
    have ne : a ≠ h₁.objs.size := fun z => by rw [z, ndx] at e; cases e
    have q2 := n₂.le a q e' hS
    have q6 := nz₆.le a q q2.1 q2.2 fun w => ow w.own
    have q7 : h₇.get? a = some q := (hb₇.2 a ne).trans q6.1
    exact nz₈.le a q q7 q6.2 fun w => ow w.own
  have T : Tb (C.pin [(h₁.objs.size + 1, instObj Hc h₁.objs.size), (h₁.objs.size, hdDict hsh t₇ l n₇)]) Hc (h₁.objs.size + 1) l := ⟨h₁.objs.size, hsh, t₇, n₇, by simp [Cx.pin], by simp [Cx.pin]⟩
  have nxC : Nx C σ ⟨h₁, g₁, d₁, tk₁, os₁⟩ ((l, [], []) :: σ) s₈ := ⟨unpin_ok nz₈.ok, le18, (nz₈.gens.trans (nz₆.gens.trans n₂.gens)), (nz₈.os.trans (nz₆.os.trans n₂.os))⟩
  have f₈ := f₁.next nxC
  have f₈' : Fm (C.pin [(h₁.objs.size + 1, instObj Hc h₁.objs.size), (h₁.objs.size, hdDict hsh t₇ l n₇)]) ((l, [], []) :: σ) s₈.heap env wr ρ := pin_fm f₈ (not_own_of_none f₁ nx) (not_own_of_none f₁ ndx)
  show wpAny C.M A (storeName env t (.ref (h₁.objs.size + 1))) _ E s₈
  refine wp_store nz₈.ok f₈' (.raw _) hst fun s₉ nz₉ f₉ => ?_
  refine wpAny_mono ((h _ _ l T).run s₉ nz₉.ok f₉ E) ?_ fun _ _ q => q
  rintro fl s₁₀ ⟨l₁₀, ρ₁₀, σ₁₀, p₁₀, rf, nz₁₀, f₁₀⟩
  refine ⟨l₁₀, ρ₁₀, σ₁₀, p₁₀, rf, ?_, unpin_fm f₁₀⟩
  have nzC := (n₁.trans nxC).nz f
  have z9 : Nz C env wr ((l, [], []) :: σ) s₈ ((l, [], []) :: σ) s₉ := ⟨unpin_ok nz₉.ok, nz₉.le, nz₉.own, nz₉.gens, nz₉.os⟩
  have z10 : Nz C env wr ((l, [], []) :: σ) s₉ σ₁₀ s₁₀ := ⟨unpin_ok nz₁₀.ok, nz₁₀.le, nz₁₀.own, nz₁₀.gens, nz₁₀.os⟩
  exact (nzC.trans z9).trans z10
end
end Mine
namespace Mine

mutual
noncomputable def toP : D → PyData
  | .none => .none
  | .bool b => .bool b
  | .int i => .int i
  | .str x => .str x
  | .list ds => .list (toPs ds)
  | .tuple ds => .tuple (toPs ds)
  | _ => .none
noncomputable def toPs : List D → List PyData
  | [] => []
  | d :: ds => toP d :: toPs ds
end
/-- plain data of at most so many floors -/
noncomputable def Dt : Nat → D → Prop
  | _, .none => True
  | _, .bool _ => True
  | _, .int _ => True
  | _, .str x => PyData.strOk x = true
  | n + 1, .list ds => ∀ d ∈ ds, Dt n d
  | n + 1, .tuple ds => ∀ d ∈ ds, Dt n d
  | _, _ => False

mutual
theorem rep_reads {h : Heap} {S : List Addr} : ∀ {v : Value} {d : D} (n : Nat), Rep h S v d → Dt n d → ∃ as, Reads h v (toP d) as
  | _, _, _, .none, _ => ⟨_, .none⟩
  | _, _, _, .bool b, _ => ⟨_, .bool b⟩
  | _, _, _, .int i t, _ => ⟨_, .int i t⟩
  | _, _, _, .str x t, _ => ⟨_, .str x t⟩
  | _, _, n, .bytes _ _, hk => by cases n <;> simp [Dt] at hk
  | _, _, 0, .list _ _ _, hk => by simp [Dt] at hk
  | _, _, 0, .tuple _ _ _, hk => by simp [Dt] at hk
  | _, _, n + 1, .list ⟨o, ho, hc, m, hd⟩ _ r, hk => by
    obtain ⟨as, q⟩ := repL_reads n r (by simpa [Dt] using hk)
    rw [toP]
    exact ⟨_, reads_list_at ho hc hd (by simpa using q)⟩
  | _, _, n + 1, .tuple ⟨o, ho, hc, m, hd⟩ _ r, hk => by
    obtain ⟨as, q⟩ := repL_reads n r (by simpa [Dt] using hk)
    rw [toP]
    exact ⟨_, reads_tuple_at ho hc hd (by simpa using q)⟩
  | _, _, n, .range _ _, hk => by cases n <;> simp [Dt] at hk
  | _, _, n, .raw _, hk => by cases n <;> simp [Dt] at hk
theorem repL_reads {h : Heap} {S : List Addr} : ∀ {vs : List Value} {ds : List D} (n : Nat), RepL h S vs ds → (∀ d ∈ ds, Dt n d) → ∃ as, ReadsAll h vs (toPs ds) as
  | _, _, _, .nil, _ => ⟨_, .nil⟩
  | _, _, n, .cons hd r, hk => by
    obtain ⟨as, q⟩ := rep_reads n hd (hk _ (.head _))
    obtain ⟨bs, p⟩ := repL_reads n r fun d hm => hk d (.tail _ hm)
    rw [toPs]
    exact ⟨_, .cons q p⟩
end
theorem dt_lay : ∀ (n : Nat) (d : D), Dt n d → (toP d).canLay0 = true ∧ (toP d).depth ≤ n := by
  have all : ∀ (n : Nat), (∀ d, Dt n d → (toP d).canLay0 = true ∧ (toP d).depth ≤ n) → ∀ ds : List D, (∀ d ∈ ds, Dt n d) → PyData.canLayAll0 (toPs ds) = true ∧ PyData.depthAll (toPs ds) ≤ n := by
    intro n ih ds
    induction ds with
    | nil => intro _; simp [toPs, PyData.canLayAll0, PyData.depthAll]
    | cons d ds hi =>
      intro h
      have h1 := ih d (h d (.head _))
      have h2 := hi fun e he => h e (.tail _ he)
      simp only [toPs, PyData.canLayAll0, PyData.depthAll, h1.1, h2.1, Bool.and_self, true_and]
      have a1 := h1.2
      have a2 := h2.2
      omega
  intro n
  induction n with
  | zero =>
    intro d h
    cases d <;> simp_all [Dt, toP, PyData.canLay0, PyData.depth]
  | succ n ih =>
    intro d h
    cases d with
    | tuple ds =>
      have q := all n ih ds (by simpa [Dt] using h)
      have q2 := q.2
      simp only [toP, PyData.canLay0, PyData.depth, q.1, true_and]
      omega
    | list ds =>
      have q := all n ih ds (by simpa [Dt] using h)
      have q2 := q.2
      simp only [toP, PyData.canLay0, PyData.depth, q.1, true_and]
      omega
    | _ => simp_all [Dt, toP, PyData.canLay0, PyData.depth]
theorem eqvAll_self (ds : List D) (h : ∀ d ∈ ds, PyData.eqv (toP d) (toP d) = true) : PyData.eqvAll (toPs ds) (toPs ds) = true := by
  induction ds with
  | nil => rfl
  | cons d ds ih => rw [toPs, PyData.eqvAll, h d (.head _), ih fun e he => h e (.tail _ he)]; rfl
theorem dt_eqv : ∀ (n : Nat) (d : D), Dt n d → PyData.eqv (toP d) (toP d) = true := by
  intro n
  induction n with
  | zero => intro d h; cases d <;> simp_all [Dt, toP, PyData.eqv]
  | succ n ih =>
    intro d h
    cases d with
    | tuple ds => rw [toP, PyData.eqv]; exact eqvAll_self ds fun e he => ih e (h e he)
    | list ds => rw [toP, PyData.eqv]; exact eqvAll_self ds fun e he => ih e (h e he)
    | _ => simp_all [Dt, toP, PyData.eqv]
section
variable {C : Cx} {A : Around} {env : Env} {wr : Bool} {ρ : Rho} {σ : Sto} {P : D → Sto → Prop}
theorem shaped_of {n : Nat} {d : D} (h : Dt n d) (hn : n ≤ 64) : SeqAt.shaped (toP d) = true := by
  have q := dt_lay n d h
  have q2 := q.2
  unfold SeqAt.shaped
  rw [q.1, Bool.true_and]
  exact decide_eq_true (by omega)
theorem op_ne_data {n : Nat} {a b : D} (rm : Rm n A) (ha : Dt 8 a) (hb : Dt 8 b) (h : P (.bool (!PyData.eqv (toP a) (toP b))) σ) : Op2 C A (compareOp .NotEq) a b σ P := by
  constructor
  intro s va vb o ra rb E
  obtain ⟨as, qa⟩ := rep_reads 8 ra ha
  obtain ⟨bs, qb⟩ := rep_reads 8 rb hb
  have u := rm.units
  exact ne_dataH qa qb (shaped_of ha (by omega)) (shaped_of hb (by omega)) (by unfold cLine; omega) ⟨_, _, h, .bool _, .refl o⟩
/-- equal on both sides -/
theorem op_ne_self {n : Nat} {a : D} (rm : Rm n A) (ha : Dt 8 a) (h : P (.bool false) σ) : Op2 C A (compareOp .NotEq) a a σ P :=
  op_ne_data rm ha ha (by rw [dt_eqv 8 a ha]; exact h)
end
end Mine
namespace Mine

section
variable {C : Cx} {A : Around} {env : Env} {wr : Bool} {ρ : Rho} {σ : Sto} {E : Value → Shared → Prop} {s : Shared}

theorem Asg.mono {t : Expr} {d : D} {P P' : Rho → Sto → Prop} (h : Asg C A env wr ρ σ t d P) (i : ∀ r σ', P r σ' → P' r σ') : Asg C A env wr ρ σ t d P' :=
  ⟨fun s v o f r E => wpAny_mono (h.run s v o f r E) (fun _ _ ⟨a, b, p, q⟩ => ⟨a, b, i _ _ p, q⟩) fun _ _ x => x⟩

theorem Ifs.mono {ifs : List Expr} {P P' : Bool → Sto → Prop} (h : Ifs C A env ρ σ ifs P) (i : ∀ b σ', P b σ' → P' b σ') : Ifs C A env ρ σ ifs P' :=
  match ifs, h with
  | [], h => i _ _ h
  | [_], h => Bv.mono h i
  | _ :: _ :: _, h => h.elim

/-- a comprehension whose parts leave the store alone -/
theorem comp_run {t elt : Expr} {ifs : List Expr} {P : List D → Sto → Prop} {src : Src} {items acc : List D} (g : D → Option D) (I : Rho → Prop) (hI : I ρ) (hin : InSt src σ)
    (h : ∀ d ∈ items, ∀ ρ, I ρ → Asg C A env false ρ σ t d fun ρ₁ σ₁ => σ = σ₁ ∧ I ρ₁ ∧ Ifs C A env ρ₁ σ₁ ifs fun b σ₂ => σ₁ = σ₂ ∧ if b then Ev C A env false ρ₁ σ₂ elt fun e σ₃ => σ₂ = σ₃ ∧ g d = some e else g d = none)
    (hP : P (acc ++ items.filterMap g) σ) : Comp C A env t ifs elt P src items acc ρ σ := by
  induction items generalizing acc ρ with
  | nil => simpa [Comp] using hP
  | cons d ds ih =>
    refine Asg.mono (h d (.head _) ρ hI) ?_
    rintro ρ₁ _ ⟨rfl, i₁, h₁⟩
    refine Ifs.mono h₁ ?_
    rintro b _ ⟨rfl, h₂⟩
    cases b with
    | false =>
      refine ⟨hin, ih i₁ (fun d hd => h d (.tail _ hd)) ?_⟩
      have : g d = none := h₂
      simpa [List.filterMap_cons, this] using hP
    | true =>
      refine Ev.mono h₂ ?_
      rintro e _ ⟨rfl, h₃⟩
      refine ⟨hin, ih i₁ (fun d hd => h d (.tail _ hd)) ?_⟩
      simpa [List.filterMap_cons, h₃] using hP

theorem bnd2k {fd : FuncData} {x y z : Str} {d e f : D} {R : Rho → Sto → Prop} (hb : ∀ v u w, bindArgs fd ⟨[v, u], [(z, w)]⟩ = pure [(x, v), (y, u), (z, w)]) (h : R [(x, d), (y, e), (z, f)] σ) : Bnd C fd [d, e] [(z, f)] σ R :=
  bnd_pure [(x, d), (y, e), (z, f)] h fun s vs ks o r q => by
    cases q with | cons q1 q => cases q; cases r with | cons r1 r => cases r with | cons r2 r => cases r; exact ⟨[_, _, _], .of_eq (hb _ _ _), .cons r1 (.cons r2 (.cons q1 .nil))⟩
/-- a last parameter that is left out and stands at none -/
theorem bnd1d {K : Frag} {fd : FuncData} {x z : Str} {d : D} {R : Rho → Sto → Prop} (X : K.In C.h₀) (hb : ∀ v S, peek K S (bindArgs fd ⟨[v], []⟩) = some [(x, v), (z, .none)]) (h : R [(x, d), (z, .none)] σ) : Bnd C fd [d] [] σ R :=
  bnd_pure [(x, d), (z, .none)] h fun s vs ks o r q => by
    cases q; cases r with | cons r1 r => cases r; exact ⟨[_, _], kp_binds (X.keeps o.base) (hb _), .cons r1 (.cons .none .nil)⟩
/-- a for over the items of a pinned dict -/
theorem ex1_for_items {p : Str} {pp ap cp pos tp : Pos} {elts : List Expr} {tx : Nat} {body : List Stmt} {P : Fl → Rho → Sto → Prop} {d : Addr} {od : Obj} {kvs : List (Str × Value)} {ep : Nat} {items : List D} {n : Nat} {pl : Sem Bool} (rm : Rm n A)
    (hp : ρ.lookup p = some (.raw (.ref d))) (hpin : (d, od) ∈ C.pins) (hD : ∀ h : Heap, h.get? d = some od → h.DictAt (PySem.strKind C.prog C.w) d kvs ep) (hS : (d == sysModules) = false)
    (hv : ∀ (h : Heap) (S : List Addr) (k : Nat) (x : Str) (v : Value), kvs[k]? = some (x, v) → ∃ dv, items[k]? = some (D.tuple [.str x, dv]) ∧ Rep h S v dv) (hlen : items.length = kvs.length)
    (h : Turns C A env wr (.Tuple elts tx tp) body P none items ρ σ)
    (hdb : (p == ("__debug__" : Str)) = false := by decide) (hdc : (p == ("__classdict__" : Str)) = false := by decide)
    (he : eval (.Call (.Attribute (.Name p pp) "items" ap) [] [] cp) env = (do
      let ov ← eval (.Name p pp) env
      standAt ap.atName
      let (f, first) ← holding [ov] (getMethod ov "items" pl)
      callWith cp f first (backTo cp (starEach [] env)) (backToKw cp (keywordEach [] env))) := by rfl)
    (hs : ∀ x, foldedSetIterable (.Call (.Attribute (.Name p pp) "items" ap) [] [] cp) env x = pure x := by intro _; rfl) :
    Ex1 C A env wr ρ σ (.For (.Tuple elts tx tp) (.Call (.Attribute (.Name p pp) "items" ap) [] [] cp) body [] pos) P := by
  constructor
  intro s o f E
  refine wpAny_For ?_ hs
  rw [he]
  refine wpAny_bind (wpAny_mono ((ev_var (A := A) (wr := wr) (P := fun x σ' => x = .raw (.ref d) ∧ σ = σ') hp ⟨rfl, rfl⟩ hdb hdc).run s o f E) ?_ fun _ _ x => x)
  rintro _ s₁ ⟨_, _, ⟨rfl, rfl⟩, r₁, n₁⟩
  cases r₁
  have f₁ := f.next n₁
  have hd₁ := n₁.ok.pin _ hpin
  have D₁ := hD _ hd₁
  have DO : s₁.heap.DictOf (PySem.strKind C.prog C.w) d kvs := let ⟨o, es, a, b, c⟩ := D₁; ⟨o, es, ep, a, b, c⟩
  refine wpAny_bind (wpAny_standAt (wpAny_bind (wpAny_holding ?_)))
  refine getMethod_builtin DO.typeIs PySem.F.plainAttrs_dict PySem.F.slot_dict_items PySem.F.type_dict_items (fun b q => by cases q; obtain ⟨o, es, a, b, c⟩ := D₁; exact ⟨o, a, b.2.1⟩) ?_
  refine callWith_method0 (call_meetsIn PySem.F.slot_dict_items DO.typeIs PySem.F.entry_dict_items (PySem.F.args_dict_items_1 _) (meets_dict_items (PySem.strKind C.prog C.w) d hS) ⟨⟨kvs, DO⟩, ?_⟩)
  have n₂ := nx_push n₁.ok { cls := .type "dict_items", data := .fields #[.ref d] }
  have D₂ := hD _ (n₂.ok.pin _ hpin)
  refine wpAny_pyIter_items ⟨_, Heap.get?_push_size _ rfl, rfl, rfl⟩ D₂ ?_
  obtain ⟨h₁, g₁, d₁, tk₁, os₁⟩ := s₁
  dsimp only at *
  have eI := Heap.get?_push_size (h₁.push { cls := .type "dict_items", data := .fields #[.ref d] }) (o := { cls := .type "dict_itemiterator", data := .fields #[.none, .bool false, .ref d, .int 0 0, .int kvs.length 0, .int ep 0, .none, .none] }) rfl
  have hI : (h₁.push { cls := .type "dict_items", data := .fields #[.ref d] }).get? (h₁.push { cls := .type "dict_items", data := .fields #[.ref d] }).objs.size = none := none_at_size
  generalize (h₁.push { cls := .type "dict_items", data := .fields #[.ref d] }).objs.size = I at eI hI ⊢
  have n₃ := nx_push (σ := σ) n₂.ok { cls := .type "dict_itemiterator", data := .fields #[.none, .bool false, .ref d, .int 0 0, .int kvs.length 0, .int ep 0, .none, .none] }
  have f₂ := f₁.next n₂
  obtain ⟨fr, hS'⟩ := free_of_none n₂.ok hI
  have ho := not_own_of_none f₂ hI
  have nf : ∀ (h : Heap) (fs : Array Value), h.get? I = some { cls := .type "dict_itemiterator", dict := none, data := .fields fs, slots := #[] } → ∀ o, h.get? I = some o → ¬ Frz o := fun h fs e o e' z => by
    rw [e] at e'; cases e'
    rcases z with ⟨_, _, z⟩ | ⟨_, z⟩
    · cases z
    · simp at z
  have nz₀ : Nz C env wr σ s σ _ := (n₁.trans n₂).nz f
  refine forLoop2 (fun n s' => ∃ k ρ' σ' ok ov, n = items.length - k ∧ k ≤ items.length ∧ IsItemIter s'.heap I d k kvs.length ep ok ov ∧ Turns C A env wr (.Tuple elts tx tp) body P none (items.drop k) ρ' σ' ∧ Nz C env wr σ _ σ' s' ∧ Fm C σ' s'.heap env wr ρ' ∧ I ∉ σ'.S)
    ?_ (items.length - 0) ⟨0, ρ, σ, .none, .none, rfl, Nat.zero_le _, eI, h, n₃.nz f₂, f₂.next n₃, hS'⟩
  rintro n s₃ ⟨k, ρ₃, σ₃, ok, ov, rfl, hk, it₃, t₃, nz₃, f₃, hS₃⟩
  by_cases hlt : k < items.length
  · obtain ⟨⟨x, v⟩, hkv⟩ : ∃ p, kvs[k]? = some p := ⟨_, List.getElem?_eq_getElem (by omega)⟩
    rw [List.drop_eq_getElem_cons hlt] at t₃
    refine wpAny_pyNext_items_item (knd := PySem.strKind C.prog C.w) it₃ (hD _ (nz₃.ok.pin _ hpin)) hkv fun key h₄ hkey out₄ tup₄ sz₄ hb₄ => ?_
    obtain ⟨nz₄, f₄, sq₄⟩ := iter_step (s₂ := { s₃ with heap := h₄ }) nz₃ f₃ hI fr hS₃ ho (nf _ _ it₃) hb₄ rfl rfl
    refine wpAny_letOwnedTupleGo_items out₄ fun h₅ it₅ hb₅ => ?_
    obtain ⟨nz₅, f₅, sq₅⟩ := iter_step (s₂ := { s₃ with heap := h₅ }) nz₄ f₄ hI fr hS₃ ho (nf _ _ out₄) (fun b o hne e => (hb₅.2 b hne).trans e) rfl rfl
    obtain ⟨tk, rfl⟩ := Value.isStrOf_shape hkey
    obtain ⟨dv, hdv, rv⟩ := hv h₅ (C.V σ₃) k x v hkv
    have ed : items[k] = D.tuple [.str x, dv] := by rw [List.getElem?_eq_getElem hlt] at hdv; exact Option.some.inj hdv
    have neI : s₃.heap.objs.size ≠ I := fun z => by
      have := Heap.lt_size it₃; rw [← z] at this; exact Nat.lt_irrefl _ this
    have rt : Rep h₅ (C.V σ₃) (.ref s₃.heap.objs.size) items[k] := by
      rw [ed]
      exact .tuple (vs := [.str x tk, v]) ⟨_, (hb₅.2 _ neI).trans tup₄, rfl, 0, rfl⟩ (size_notin nz₃.ok (Nat.le_refl _)) (.cons (.str x tk) (.cons rv .nil))
    refine wpAny_mono (Asg.run t₃ _ _ nz₅.ok f₅ rt _) ?_ fun _ _ x => x
    rintro _ s₆ ⟨ρ₆, σ₆, ex, nz₆, f₆⟩
    refine wpAny_mono (ex.run s₆ nz₆.ok f₆ _) ?_ fun _ _ x => x
    rintro fl s₇ ⟨l, ρ₇, σ₇, p, rf, nz₇, f₇⟩
    have nz := (nz₅.trans nz₆).trans nz₇
    have keepI := (nz₆.trans nz₇).le I _ it₅ hS₃ fun w => ho w.own
    have again : InSt none σ₇ ∧ Turns C A env wr (.Tuple elts tx tp) body P none (items.drop (k + 1)) ρ₇ σ₇ → ∃ m, m < items.length - k ∧ ∃ k ρ' σ' ok ov, m = items.length - k ∧ k ≤ items.length ∧ IsItemIter s₇.heap I d k kvs.length ep ok ov ∧ Turns C A env wr (.Tuple elts tx tp) body P none (items.drop k) ρ' σ' ∧ Nz C env wr σ _ σ' s₇ ∧ Fm C σ' s₇.heap env wr ρ' ∧ I ∉ σ'.S :=
      fun ⟨_, t₇⟩ => ⟨items.length - (k + 1), by omega, k + 1, ρ₇, σ₇, _, _, rfl, hlt, keepI.1, t₇, nz, f₇, keepI.2⟩
    cases rf with
    | nx => exact again p
    | cont => exact again p
    | brk => exact ⟨_, _, _, p, .nx, nz₀.trans nz, f₇⟩
    | ret q => exact ⟨_, _, _, p, .ret q, nz₀.trans nz, f₇⟩
  · have hk' : k = items.length := by omega
    subst hk'
    rw [List.drop_length] at t₃
    refine wpAny_pyNext_items_end (knd := PySem.strKind C.prog C.w) rm.handled it₃ (hD _ (nz₃.ok.pin _ hpin)) (by rw [hlen]; simp) fun h₄ hb₄ => ?_
    obtain ⟨nz₄, f₄, _⟩ := iter_step (s₂ := { s₃ with heap := h₄ }) nz₃ f₃ hI fr hS₃ ho (nf _ _ it₃) hb₄ rfl rfl
    exact wpAny_execs_nil ⟨_, _, _, t₃, .nx, nz₀.trans nz₄, f₄⟩
end
end Mine
namespace Mine

section
variable {C : Cx} {A : Around} {env : Env} {wr : Bool} {ρ : Rho} {σ : Sto} {E : Value → Shared → Prop} {s : Shared}

/-- the binding of arguments that lays objects of its own -/
noncomputable def BndP (C : Cx) (fd : FuncData) (args : List D) (kw : List (Str × D)) (σ : Sto) (R : List (Addr × Obj) → Rho → Prop) : Prop :=
  ∀ A s vs ks, Ok C σ s.heap → RepL s.heap (C.V σ) vs args → RepL s.heap (C.V σ) ks (kw.map (·.2)) → ∀ E, wpAny C.M A (bindArgs fd ⟨vs, (kw.map (·.1)).zip ks⟩) (fun binds s₁ =>
    ∃ ps ρ₀ bs, R ps ρ₀ ∧ binds = (ρ₀.map (·.1)).zip bs ∧ RepL s₁.heap (C.V σ) bs (ρ₀.map (·.2)) ∧ Nx C σ s σ s₁ ∧ Ok (C.pin ps) σ s₁.heap) E s

theorem ca_fun_pin {fa : Addr} {fd : FuncData} {body : List Stmt} {args : List D} {kw : List (Str × D)} {P : D → Sto → Prop} {n : Nat} (rm : Rm (n + 1) A) (F : FnAt C fa fd body)
    (hb : BndP C fd args kw σ fun ps ρ₀ => bindsOk fd (ρ₀.map (·.1)) = true ∧
      ∀ L, Ex (C.pin ps) (A.deeper (fenv fd fa L)) (fenv fd fa L) true ρ₀ σ body fun fl _ σ' => P (match fl with | .ret d => d | _ => .none) σ') : Ca C A (.ref fa) args kw σ P := by
  constructor
  intro s vs ks o r q E
  obtain ⟨⟨ob, ho, hd⟩, hcd, hbody, hpl⟩ := F
  simp only [Bool.and_eq_true, beq_iff_eq, Bool.not_eq_true', List.isEmpty_iff] at hpl
  obtain ⟨⟨⟨⟨⟨hcl, hgl⟩, hbl⟩, hco⟩, hgen⟩, hk⟩ := hpl
  refine wpAny_call (codeAny_call_function (by have := rm.depth; show A.depth < 1000; omega) (o.base _ _ ho) hd hco hgen hbody (hcd.keeps o.base) ?_)
  refine wpAny_mono (hb _ s vs ks o r q _) ?_ fun _ _ x => x
  rintro binds s₁ ⟨ps, ρ₀, bs, ⟨hok, hx⟩, rfl, rb, n₁, ok₁⟩
  simp only [bindsOk, Bool.and_eq_true, decide_eq_true_eq] at hok
  have hnm : ((ρ₀.map (·.1)).zip bs).map (·.1) = ρ₀.map (·.1) := zip_names (by have := rb.length; simpa using this)
  have hall : (((ρ₀.map (·.1)).zip bs).all fun y => fd.scope.names.lookup y.1 == some .local || fd.scope.names.lookup y.1 == some .cell) = true := by
    rw [List.all_eq_true]
    intro y hy
    exact List.all_eq_true.mp hok.1 y.1 (hnm ▸ List.mem_map_of_mem hy)
  rw [hcl]
  refine wpAny_newFunctionEnv_cells hk (kindsX hall _) ?_
  rintro env' rfl s₂ ic
  have icm := ic.toInCall
  obtain ⟨h₂, tk, e₂⟩ := icm.same
  have L0 : (newEnv fd.scope s₁.heap.objs.size fd.globals (cellsFrom (s₁.heap.objs.size + 1) fd.scope.names []) (fd.qualname ++ ".<locals>.") (some fa) fd.code none fd.builtins) = fenv fd fa s₁.heap.objs.size := rfl
  rw [L0] at ic icm ⊢
  have n₂ : Nx (C.pin ps) σ s₁ σ s₂ := Nx.of_keeps ok₁ icm.keep (by rw [e₂]) (by rw [e₂])
  have hL : (fenv fd fa s₁.heap.objs.size).locals = s₁.heap.objs.size := rfl
  have fm : Fm (C.pin ps) σ s₂.heap (fenv fd fa s₁.heap.objs.size) true ρ₀ := by
    refine ⟨⟨_, icm.ns, fun x d e => ?_⟩, hk, hgl, hbl, ?_, fun x c hc => ?_, fun x y c hx hy => ?_⟩
    · obtain ⟨v, hv, rv⟩ := zip_lookup rb e
      refine ⟨v, rv.mono n₂.le.v, ?_⟩
      have hnd : (((ρ₀.map (·.1)).zip bs).map (·.1)).Nodup := by rw [hnm]; exact hok.2
      rcases kindsX hall (s₁.heap.objs.size + 1) _ hv with hx | ⟨hx, hs⟩
      · exact .inl ⟨hx, bindL_get hx _ _ hnd hv⟩
      · obtain ⟨c, hc⟩ := Option.isSome_iff_exists.mp hs
        refine .inr ⟨.inl hx, c, hc, ?_⟩
        have := ic.cell x c hc
        rwa [bindC_get (k := (fenv fd fa s₁.heap.objs.size).kindOf) (by show fd.scope.names.lookup x ≠ some .local; rw [hx]; intro z; cases z) _ _ hnd hv] at this
    · exact free_of_size ok₁ (Nat.le_refl _)
    · have ab := ic.above x c (mem_lookup hc)
      have fr := free_of_size ok₁ (Nat.le_of_lt ab)
      exact ⟨⟨_, ic.cell x c hc⟩, fun z => by rw [z] at ab; exact Nat.lt_irrefl _ ab, fr.2, fun _ => fr.1⟩
    · exact pairwise_eq ic.apart (mem_lookup hx) (mem_lookup hy)
  refine ⟨?_, codeAny_func (wpAny_mono ((hx _).run s₂ n₂.ok fm _) ?_ fun _ _ x => x)⟩
  · obtain ⟨mc, hn, hm⟩ := C.lim; exact ⟨mc, Ns.keep hn n₂.ok.base, hm⟩
  rintro fl s₃ ⟨l, ρ', σ', p, rf, n₃, _⟩
  have fin : Nx C σ s σ' s₃ := by
    refine n₁.trans ⟨unpin_ok n₃.ok, fun a x e hn => ?_, n₃.gens.trans n₂.gens, n₃.os.trans n₂.os⟩
    refine n₃.le a x (icm.keep _ _ e) hn ?_
    have lt := Heap.lt_size e
    rintro (z | ⟨_, y, hc⟩)
    · rw [z, hL] at lt; exact Nat.lt_irrefl _ lt
    · have := ic.above y a (mem_lookup hc); exact absurd (Nat.lt_trans lt this) (Nat.lt_irrefl _)
  cases rf with
  | ret r => exact ⟨_, _, p, r, fin⟩
  | _ => exact ⟨_, _, p, .none, fin⟩

theorem pin1_ok {x : Addr} {ob : Obj} {h h' : Heap} (o : Ok C σ h) (k : ∀ a q, h.get? a = some q → h'.get? a = some q) (hx : h.get? x = none) (hx' : h'.get? x = some ob) :
    Ok (C.pin [(x, ob)]) σ h' := by
  have o' := o.keeps k
  refine ⟨o'.base, fun p hp => ?_, fun p hp => ?_, o'.at_, o'.nd, o'.zs⟩
  · rcases List.mem_append.mp hp with hp | hp
    · simp only [List.mem_cons, List.not_mem_nil, or_false] at hp
      rw [hp]; exact hx'
    · exact o'.pin p hp
  · have fr := o.off p hp
    obtain ⟨n, e, _⟩ := o.at_ p hp
    refine ⟨fr.1, fun q hq => ?_, fr.2.2⟩
    rcases List.mem_append.mp hq with hq | hq
    · simp only [List.mem_cons, List.not_mem_nil, or_false] at hq
      rw [hq]; intro z; rw [← z, hx] at e; cases e
    · exact fr.2.1 q hq

end
end Mine
namespace Mine

section
variable {C : Cx} {A : Around} {env : Env} {wr : Bool} {ρ : Rho} {σ : Sto}

theorem Asg.sub {t : Expr} {d : D} {ρ' : Rho} {P : Rho → Sto → Prop} (q : Sub ρ' ρ) (h : Asg C A env wr ρ' σ t d P) : Asg C A env wr ρ σ t d P := ⟨fun s v o f r E => h.run s v o (f.sub q) r E⟩
theorem ex1_wk {st : Stmt} {P : Fl → Rho → Sto → Prop} (h : Ex1 C A env wr ρ σ st fun fl ρ' σ' => ∃ ρ'', Sub ρ'' ρ' ∧ P fl ρ'' σ') : Ex1 C A env wr ρ σ st P :=
  ⟨fun s o f E => wpAny_mono (h.run s o f E) (fun _ _ ⟨l, _, σ', ⟨ρ'', q, p⟩, r, n, fm⟩ => ⟨l, ρ'', σ', p, r, n, fm.sub q⟩) fun _ _ x => x⟩
/-- what holds ahead of each turn of a for -/
structure Goes (C : Cx) (A : Around) (env : Env) (wr : Bool) (t : Expr) (body : List Stmt) (P : Fl → Rho → Sto → Prop) (src : Src) (I : List D → Rho → Sto → Prop) : Prop where
  last : ∀ ρ σ, I [] ρ σ → P .nx ρ σ
  turn : ∀ d ds ρ σ, I (d :: ds) ρ σ → Asg C A env wr ρ σ t d fun ρ₁ σ₁ => Ex C A env wr ρ₁ σ₁ body fun fl ρ₂ σ₂ => match fl with
      | .nx => InSt src σ₂ ∧ ∃ ρ₃, Sub ρ₃ ρ₂ ∧ I ds ρ₃ σ₂
      | .cont => InSt src σ₂ ∧ ∃ ρ₃, Sub ρ₃ ρ₂ ∧ I ds ρ₃ σ₂
      | .brk => P .nx ρ₂ σ₂
      | .ret d => P (.ret d) ρ₂ σ₂
theorem Goes.turns {t : Expr} {body : List Stmt} {P : Fl → Rho → Sto → Prop} {src : Src} {I : List D → Rho → Sto → Prop} (g : Goes C A env wr t body P src I) {ρ₀ : Rho} : ∀ {items : List D} {ρ : Rho} {σ : Sto}, Sub ρ₀ ρ → I items ρ₀ σ →
    Turns C A env wr t body (fun fl ρ' σ' => ∃ ρ'', Sub ρ'' ρ' ∧ P fl ρ'' σ') src items ρ σ := by
  intro items
  induction items generalizing ρ₀ with
  | nil => exact fun q i => ⟨ρ₀, q, g.last _ _ i⟩
  | cons d ds ih =>
    intro ρ σ q i
    refine Asg.mono (Asg.sub q (g.turn d ds ρ₀ σ i)) fun ρ₁ σ₁ h₁ => Ex.mono h₁ fun fl ρ₂ σ₂ h₂ => ?_
    cases fl with
    | nx => obtain ⟨a, ρ₃, b, c⟩ := h₂; exact ⟨a, ih b c⟩
    | cont => obtain ⟨a, ρ₃, b, c⟩ := h₂; exact ⟨a, ih b c⟩
    | brk => exact ⟨_, .refl, h₂⟩
    | ret _ => exact ⟨_, .refl, h₂⟩
theorem ex1_for_inv {target iter : Expr} {body : List Stmt} {pos : Pos} {P : Fl → Rho → Sto → Prop}
    (h : Ev C A env wr ρ σ iter fun d σ₁ => ∃ src items, Itr C A d σ₁ src items ∧ InSt src σ₁ ∧ ∃ I ρ₀, Sub ρ₀ ρ ∧ I items ρ₀ σ₁ ∧ Goes C A env wr target body P src I)
    (hs : ∀ x, foldedSetIterable iter env x = pure x := by intro _; rfl) : Ex1 C A env wr ρ σ (.For target iter body [] pos) P :=
  ex1_wk (ex1_for (h.mono fun _ _ ⟨src, items, a, b, I, ρ₀, c, d, e⟩ => ⟨src, items, a, b, e.turns c d⟩) hs)
end
end Mine
namespace Mine
section
variable {C : Cx} {A : Around} {env : Env} {wr : Bool} {ρ : Rho} {σ : Sto}
theorem ifs_nil {P : Bool → Sto → Prop} (h : P true σ) : Ifs C A env ρ σ [] P := h
theorem ifs_one {c : Expr} {P : Bool → Sto → Prop} (h : Bv C A env false ρ σ c P) : Ifs C A env ρ σ [c] P := h
/-- the same with names that stay as they are -/
theorem comp_go {t elt : Expr} {ifs : List Expr} {P : List D → Sto → Prop} {src : Src} {items : List D} (g : D → Option D) (ρ₀ : Rho) (hI : Sub ρ₀ ρ) (hin : InSt src σ)
    (h : ∀ d ∈ items, Asg C A env false ρ₀ σ t d fun ρ₁ σ₁ => σ = σ₁ ∧ Sub ρ₀ ρ₁ ∧ Ifs C A env ρ₁ σ₁ ifs fun b σ₂ => σ₁ = σ₂ ∧ if b then Ev C A env false ρ₁ σ₂ elt fun e σ₃ => σ₂ = σ₃ ∧ g d = some e else g d = none)
    (hP : P (items.filterMap g) σ) : Comp C A env t ifs elt P src items [] ρ σ :=
  comp_run g (Sub ρ₀) hI hin (fun d hd _ hr => Asg.sub hr (h d hd)) (by simpa using hP)
end
end Mine
namespace Mine
section
variable {C : Cx} {A : Around} {env : Env} {wr : Bool} {ρ : Rho} {σ : Sto}
theorem updS_one {l : Addr} {vs us : List Value} {ds es : List D} : updS [(l, vs, ds)] l us es = [(l, us, es)] := by simp [updS]
theorem updS_two {l k : Addr} {vs us ws : List Value} {ds es fs : List D} (h : k ≠ l) : updS [(k, ws, fs), (l, vs, ds)] l us es = [(k, ws, fs), (l, us, es)] := by simp [updS, h]
theorem updS_fst {l k : Addr} {vs us ws : List Value} {ds es fs : List D} (h : l ≠ k) : updS [(k, ws, fs), (l, vs, ds)] k us es = [(k, us, es), (l, vs, ds)] := by simp [updS, h]
theorem Ok.tail {e : Addr × List Value × List D} {h : Heap} (o : Ok C (e :: σ) h) : Ok C σ h := by
  have hm : ∀ {p : Addr × List Value × List D}, p ∈ σ → p ∈ e :: σ := fun hp => List.mem_cons_of_mem _ hp
  refine ⟨o.base, o.pin, fun p hp => o.off p (hm hp), fun p hp => ?_, ?_, o.zs⟩
  · obtain ⟨n, q, r⟩ := o.at_ p (hm hp)
    refine ⟨n, q, r.mono fun a x e' hn _ => ⟨e', fun hz => hn ?_⟩⟩
    simp only [Cx.V, List.mem_append] at hz ⊢
    exact hz.imp (fun y => List.mem_cons_of_mem _ y) id
  · have := o.nd
    exact (List.nodup_cons.mp this).2
/-- a list that only the function that is left knew -/
theorem ca_drop {f : Value} {args : List D} {kw : List (Str × D)} {P : D → Sto → Prop} (h : Ca C A f args kw σ fun d σ' => ∃ e σ'', σ' = e :: σ'' ∧ P d σ'') : Ca C A f args kw σ P := by
  constructor
  intro s vs ks o r q E
  refine wpAny_mono (h.run s vs ks o r q E) ?_ fun _ _ x => x
  rintro v s' ⟨d, _, ⟨e, σ', rfl, p⟩, rv, n⟩
  refine ⟨d, σ', p, rv.mono fun a x e' hn _ => ⟨e', fun hz => hn ?_⟩, ⟨n.ok.tail, fun a x e' hn => ⟨(n.le a x e' hn).1, fun hz => (n.le a x e' hn).2 (List.mem_cons_of_mem _ hz)⟩, n.gens, n.os⟩⟩
  simp only [Cx.V, List.mem_append] at hz ⊢
  exact hz.imp (fun y => List.mem_cons_of_mem _ y) id
theorem ca_join_store {x : Str} {xs : List Str} {l : Addr} {vs : List Value} {P : D → Sto → Prop} (hin : (l, vs, xs.map .str) ∈ σ) (hok : JoinOk x xs = true) (h : P (.str (Txt.join x xs)) σ) : Ca C A (.builtin "str.join") [.str x, .raw (.ref l)] [] σ P := by
  refine ca_intro fun s ws o r E => ?_
  obtain ⟨_, _, rfl, r1, r2⟩ := r.inv2
  cases r1
  cases r2
  obtain ⟨n, e, rl⟩ := o.at_ _ hin
  obtain ⟨lt, rfl, e'⟩ := strs_rep rl
  exact SC.join ⟨_, e, rfl, n, rfl⟩ e' hok fun t' k => ⟨_, _, h, .str _ _, nx_toks o _⟩
theorem ev_neg {e : Expr} {pos : Pos} {P : D → Sto → Prop} (h : Ev C A env wr ρ σ e fun d σ₁ => ∃ i, d = .int i ∧ P (.int (-i)) σ₁) : Ev C A env wr ρ σ (.UnaryOp .USub e pos) P := by
  constructor
  intro s o f E
  refine UnaryOp_ (wpAny_mono (h.run s o f E) ?_ fun _ _ x => x)
  rintro v s₁ ⟨_, σ₁, ⟨i, rfl, p⟩, r, n⟩
  cases r
  exact neg_int ⟨_, _, p, .int _ _, n.trans (nx_toks n.ok _)⟩
end
end Mine
namespace Mine
section
variable {C : Cx} {A : Around} {env : Env} {wr : Bool} {ρ : Rho} {σ : Sto} {P : D → Sto → Prop}
theorem meets_colon (x y : Str) (tx ty t : Tok) (b : Addr) (hx : x.length ≤ 1000000) (hy : y.length ≤ 1000000) :
    Meets (Builtin.«str.__mod__» ⟨[.str ⟨#[37, 115, 58, 32, 37, 115]⟩ t, .ref b], []⟩) (fun _ R s => IsTup s.heap b #[.str x tx, .str y ty] ∧ ∀ t' k, R (.ok (.ret (.str (x ++ Str.ofString ": " ++ y) t'))) { s with toks := k }) := by
  kpt_run
/-- a format and a tuple of two texts -/
theorem op_mod_pair {f x y T : Str} (hm : ∀ tx ty t b, Meets (Builtin.«str.__mod__» ⟨[.str f t, .ref b], []⟩) (fun _ R s => IsTup s.heap b #[.str x tx, .str y ty] ∧ ∀ t' k, R (.ok (.ret (.str T t'))) { s with toks := k }))
    (h : P (.str T) σ) : Op2 C A (binaryOp .Mod) (.str f) (.tuple [.str x, .str y]) σ P := by
  constructor
  rintro s _ _ o ⟨⟩ r E
  cases r with
  | tuple ht hn rl =>
    cases rl with | cons r1 rl => cases rl with | cons r2 rl =>
    cases rl
    cases r1
    cases r2
    have hT : s.TypeIs (.ref _) "tuple" := let ⟨o, ho, hc, _⟩ := ht; ⟨o, ho, hc⟩
    exact KPt.bin_left (T := "str") (U := "tuple") (op := .Mod) (by decide) (typeIs_str s _ _) hT PySem.F.fills_str_mod KPt.fills_tuple PySem.F.slot_str_mod
      (call_meets PySem.F.slot_str_mod (typeIs_str s _ _) PySem.F.entry_str_mod (PySem.F.args_str_mod_2 _ _) (hm _ _ _ _) ⟨ht, fun t' k => ⟨(fun e => nomatch e), _, _, h, .str _ _, nx_toks o _⟩⟩)
end
end Mine
namespace Mine
theorem latin_fold (l : List Nat) (acc : Array UInt8) : l.foldl (fun acc y => acc ++ (Builtin._codecs.latin1Codec.bytesOf y).toArray) acc = acc ++ (l.map Nat.toUInt8).toArray := by
  induction l generalizing acc with
  | nil => simp
  | cons c l ih =>
    rw [List.foldl_cons, ih]
    show acc ++ [c.toUInt8].toArray ++ _ = _
    simp
open Builtin._codecs in
theorem wp_latin1 {M : Model} {A : Around} {E : Value → Shared → Prop} {s : Shared} {self : Value} {x : Str} {Q : Array UInt8 → Shared → Prop} (h : ∀ c ∈ x.cps.toList, c < 256) (hsz : x.length ≤ sizeLine)
    (hq : Q (x.cps.toList.map Nat.toUInt8).toArray s) : wpAny M A (encodeNarrow "str.encode" latin1Codec none self x) Q E s := by
  unfold encodeNarrow
  dsimp only
  rw [KPc.range_list]
  have e : x.length = x.cps.size := rfl
  refine wpAny_bind (wpAny_forIn_list _ (fun rest b s' => s' = s ∧ ((b.1 = 0 ∧ b.2.1 = #[] ∧ rest.length = x.cps.size) ∨ (b.1 = x.cps.size ∧ b.2.1 = (x.cps.toList.map Nat.toUInt8).toArray))) _ ?_ ?_ _ _ ⟨rfl, .inl ⟨rfl, rfl, by simp [e]⟩⟩)
  · rintro n rest ⟨i, out, st⟩ s' ⟨rfl, (⟨hi, ho, hl⟩ | ⟨hi, ho⟩)⟩
    · dsimp only at hi ho hl ⊢
      subst hi ho
      have hpos : 0 < x.cps.size := by rw [← hl]; simp
      rw [if_neg (by simp)]
      have hg : x.cps[0]? = some x.cps[0] := by simp [hpos]
      rw [hg]
      have hb : latin1Codec.bad x.cps[0] = false := by
        have := h x.cps[0] (by simp)
        show decide (x.cps[0] ≥ 256) = false
        exact decide_eq_false (by omega)
      dsimp only
      rw [hb, if_pos (by rfl)]
      have he : x.cps.extract 0 x.cps.size = x.cps := by simp
      have hf : x.cps.findIdx? latin1Codec.bad = none := by
        rw [Array.findIdx?_eq_none_iff]
        intro c hc
        have := h c (by simpa using hc)
        show decide (c ≥ 256) = false
        exact decide_eq_false (by omega)
      rw [he, hf, Option.getD_none, he]
      refine wpAny_pure ⟨rfl, .inr ⟨Nat.zero_add _, ?_⟩⟩
      dsimp only
      rw [← Array.foldl_toList, latin_fold]
      simp
    · dsimp only at hi ho ⊢
      subst hi ho
      rw [if_neg (by simp; rw [← e]; omega)]
      have hg : x.cps[x.cps.size]? = none := by simp
      rw [hg]
      exact wpAny_pure (wpAny_pure hq)
  · rintro ⟨i, out, st⟩ s' ⟨rfl, (⟨hi, ho, hl⟩ | ⟨hi, ho⟩)⟩
    · dsimp only at hi ho hl ⊢
      subst hi ho
      have : x.cps.toList = [] := by
        apply List.eq_nil_of_length_eq_zero
        rw [Array.length_toList, ← hl]; rfl
      rw [this] at hq
      exact wpAny_pure hq
    · dsimp only at ho ⊢
      subst ho
      exact wpAny_pure hq
open Builtin Builtin._codecs in
theorem encode_tree2 (x : Str) (t u : Tok) : Builtin.«str.encode» ⟨[.str x t, .str (Str.ofString "iso-8859-1") u], []⟩ = (do ret (← encodeRoad "str.encode" (.str x t) x (Str.ofString "iso-8859-1") none)) := by kernel_rfl
open Builtin Builtin._codecs in
theorem encodeRoad_latin (x : Str) (t : Tok) : encodeRoad "str.encode" (.str x t) x (Str.ofString "iso-8859-1") none = (do mkBytes (← encodeNarrow "str.encode" latin1Codec none (.str x t) x)) := by kernel_rfl
section
variable {C : Cx} {A : Around} {env : Env} {wr : Bool} {ρ : Rho} {σ : Sto} {P : D → Sto → Prop}
theorem gm_encode {x : Str} : Gm C A (.str x) "encode" (.builtin "str.encode") σ := by
  constructor; rintro s _ pl o ⟨⟩ E Q h
  exact getMethod_builtin (typeIs_str _ _ _) PySem.F.plainAttrs_str PySem.F.slot_str_encode PySem.F.type_str_encode (fun a q => by cases q) h
theorem ca_encode {x : Str} (h1 : ∀ c ∈ x.cps.toList, c < 256) (hsz : x.length ≤ sizeLine) (h : P (.bytes (x.cps.toList.map Nat.toUInt8).toArray) σ) : Ca C A (.builtin "str.encode") [.str x, .str (Str.ofString "iso-8859-1")] [] σ P := by
  refine ca_intro fun s vs o r E => ?_
  obtain ⟨_, _, rfl, r1, r2⟩ := r.inv2
  cases r1
  cases r2
  refine wpAny_call_entry PySem.F.slot_str_encode (typeIs_str _ _ _) PySem.F.entry_str_encode ?_ (PySem.F.args_str_encode_2 _ _)
  rw [encode_tree2, encodeRoad_latin]
  refine wpAny_bind (wpAny_bind (wp_latin1 h1 hsz ?_))
  exact wpAny_mkBytes (wpAny_pure ⟨_, rfl, _, _, h, .bytes _ _, nx_toks o _⟩)
end
end Mine
namespace Mine
section
variable {C : Cx} {A : Around} {env : Env} {wr : Bool} {ρ : Rho} {σ : Sto} {P : D → Sto → Prop}
/-- str(x) by the object's own __str__ -/
theorem ca_str_own {K : Frag} {Hc x l f : Addr} {n : Nat} (rm : Rm n A) (X : K.In C.h₀) (T : Tb C Hc x l) (hs : findIn K (.ref Hc) "__str__" = some (some (.ref f))) (hf : isFn K (.ref f) = true)
    (h : Ca C A.in1.in1 (.ref f) [.raw (.ref x)] [] σ fun d σ' => ∃ y, d = .str y ∧ P (.str y) σ') : Ca C A (.type "str") [.raw (.ref x)] [] σ P := by
  refine ca_intro fun s vs ok r E => ?_
  obtain ⟨_, rfl, r1⟩ := r.inv1
  cases r1
  obtain ⟨ox, hsh, t, m, I, _⟩ := T.inst ok
  have u := rm.units
  refine kso_call (by show A.units + 1 + 1 < cLine; unfold cLine; omega) (X.keeps ok.base) I hs hf (wpAny_mono (h.run s [.ref x] [] ok (.cons (.raw _) .nil) .nil _) ?_ fun _ _ y => y)
  rintro u s₁ ⟨_, σ₁, ⟨y, rfl, p⟩, r₁, n₁⟩
  cases r₁
  exact ⟨_, _, p, .str _ _, n₁⟩
/-- bytes(x) by the object's own __bytes__ -/
theorem ca_bytes_own {K : Frag} {Hc x l f : Addr} (X : K.In C.h₀) (T : Tb C Hc x l) (hs : findIn K (.ref Hc) "__bytes__" = some (some (.ref f))) (hf : typeIn K (.ref f) = some (.type "function"))
    (h : Ca C A.in1.in1 (.ref f) [.raw (.ref x)] [] σ fun d σ' => ∃ y, d = .bytes y ∧ P (.bytes y) σ') : Ca C A (.type "bytes") [.raw (.ref x)] [] σ P := by
  refine ca_intro fun s vs ok r E => ?_
  obtain ⟨_, rfl, r1⟩ := r.inv1
  cases r1
  obtain ⟨ox, hsh, t, m, I, _⟩ := T.inst ok
  have X' := X.keeps ok.base
  refine callType_codes (Q₁ := fun obj s₁ => s₁.TypeIs obj "bytes" ∧ Gets C σ s P obj s₁) PySem.F.bm_called (PySem.F.bm_typeCall _) PySem.F.entry_object_init ?_ fun obj s₁ h₁ =>
    ⟨h₁.1, PySem.F.args_object_init_2 obj _, object_init_meets PySem.F.bm_called.init.lookup PySem.F.bm_called.made (by decide) C.prog C.w A.in1 _ s₁ ⟨h₁.1, rfl, h₁.2⟩⟩
  refine codeAny_of_tree ?_
  show wpAny _ A.in1.in1 (do checkBuiltinCall "bytes.__new__" ⟨[.type "bytes", .ref x], []⟩; again (.builtin "bytes.__new__" ⟨[.type "bytes", .ref x], []⟩)) _ _ s
  refine wpAny_bind (wpAny_of_eq (PySem.F.bm_newCall _) (wpAny_pure ⟨plainId_quiet PySem.F.bm_plain _, codeAny_builtin PySem.F.bm_entry ?_⟩))
  rw [Around.under_plainId PySem.F.bm_plain _]
  unfold Builtin.«bytes.__new__»
  refine wpAny_bind (wpAny_of_eq (a := true) rfl ?_)
  refine bm_if_false rfl ?_
  refine wpAny_bind (wpAny_of_eq PySem.F.bm_sub ?_)
  refine bm_if_false rfl ?_
  refine wpAny_bind (wpAny_of_eq (PySem.F.bm_bind _) ?_)
  refine wpAny_bind (wpAny_of_eq (a := ()) rfl ?_)
  refine wpAny_bind (wpAny_of_eq (a := ()) rfl ?_)
  refine bm_if_false rfl ?_
  refine wpAny_bind (m := specialOf (.ref x) (Str.ofString "__bytes__")) (wpAny_bind (I.type.here ((looks_findIn X' hs).here ?_)))
  refine wpAny_bind (wpAny_rule ?_)
  refine wpAny_bind (m := callSpecial? (.ref x) (Str.ofString "__bytes__")) (special_fn X' I hs hf (wpAny_mono (h.run s [.ref x] [] ok (.cons (.raw _) .nil) .nil _) ?_ fun _ _ y => y))
  rintro u s₁ ⟨_, σ₁, ⟨y, rfl, p⟩, r₁, n₁⟩
  cases r₁ with
  | bytes _ tk =>
  refine wpAny_bind (wpAny_isInstance (PySem.W.typeIs_bytes _ _ _) PySem.F.bm_sub ?_)
  refine bm_if_false rfl ?_
  show wpAny _ _ (if (Value.type "bytes" == Value.type "bytes") = true then _ else _) _ _ _
  refine bm_if_true (by decide) ?_
  have fin : wants (fun obj s₁ => s₁.TypeIs obj "bytes" ∧ Gets C σ s P obj s₁) E (.ok (.ret (.bytes y tk))) s₁ := ⟨PySem.W.typeIs_bytes _ _ _, _, _, p, .bytes _ _, n₁⟩
  first
    | exact wpAny_pure fin
    | exact wpAny_bind (wpAny_pure (wpAny_pure fin))
theorem ca_bytes_list (hh : A.handled = none) {ns : List Int} (hr : ∀ n ∈ ns, 0 ≤ n ∧ n < 256) (hz : ns.length ≤ sizeLine) (h : P (.bytes (byteArr ns)) σ) : Ca C A (.type "bytes") [.list (ns.map .int)] [] σ P := by
  refine ca_intro fun s vs ok r E => ?_
  obtain ⟨_, rfl, r1⟩ := r.inv1
  cases r1 with
  | list hl hn rl =>
    have hi := ints_rep rl
    refine call_bytes_ints hl hi hr (by rw [hi.length]; exact hz) hh fun h' t k hk => ⟨_, _, h, .bytes _ _, Nx.of_keeps (s' := { s with heap := h', toks := k }) ok hk rfl rfl⟩
theorem op_item_str {x : Str} {k : Nat} {c : Nat} (hk : k < 2 ^ 62) (hc : x.cps[k]? = some c) (h : P (.str ⟨#[c]⟩) σ) : BT (.str x) ∧ Op2 C A getItem (.str x) (.int k) σ P := by
  refine ⟨bt_str, ?_⟩
  constructor; rintro s _ _ o ⟨⟩ ⟨⟩ E
  refine PySem.P.getItem_str (c := c) ?_ ?_ ⟨_, _, h, .str _ _, nx_toks o _⟩
  · simp only [Bool.or_eq_false_iff, decide_eq_false_iff_not]; omega
  · have hlt : k < x.length := (Array.getElem?_eq_some_iff.mp hc).1
    have : seqIndex? (k : Int) x.length = some k := by
      unfold seqIndex?
      simp only [show ¬ ((k : Int) < 0) from by omega, if_false]
      rw [if_pos (by simp only [Bool.and_eq_true, decide_eq_true_eq]; omega)]
      simp
    rw [this]; exact hc
theorem op_mul_str {x : Str} {n : Int} (hok : MulOk x n) (h : P (.str (Txt.mul x n)) σ) : Op2 C A (binaryOp .Mult) (.str x) (.int n) σ P := by
  constructor; rintro s _ _ o ⟨⟩ ⟨⟩ E; exact SB.mul hok fun t' k => ⟨_, _, h, .str _ _, nx_toks o _⟩
end
end Mine
namespace Mine
open Builtin Builtin.Str in
theorem replaceT {prog : Program} {w : World} {A : Around} {E : Value → Shared → Prop} {s : Shared} {x y z : Str} {t u v : Tok} {Q : Value → Shared → Prop} (hu : u ≠ 0) (hv : v ≠ 0) (huv : u ≠ v) (hyz : (y == z) = false)
    (hx : x.length ≤ 1048576) (hz : z.length ≤ 14)
    (hq : ∀ t' k, s.toks ≤ k → Q (.str (Txt.replace x y z) t') { s with toks := k }) : wpAny (model prog w) A (call (.builtin "str.replace") [.str x t, .str y u, .str z v]) Q E s := by
  have hb : x.length + (x.length + 1) * z.length ≤ 16777216 := by
    have h1 : (x.length + 1) * z.length ≤ (x.length + 1) * 14 := Nat.mul_le_mul_left _ hz
    omega
  have hl : tooLong (x.length + (occurrences x y 0 x.length (x.length + 1)).length * z.length) = false := by
    have h1 := StrLaws.occ_length_le x y 0 x.length (x.length + 1)
    have h2 : (occurrences x y 0 x.length (x.length + 1)).length * z.length ≤ (x.length + 1) * z.length := Nat.mul_le_mul_right _ h1
    unfold tooLong sizeLine
    exact decide_eq_false (by omega)
  refine call_gives PySem.F.slot_str_replace (typeIs_str _ _ _) PySem.F.entry_str_replace (PySem.F.args_str_replace_3 _ _ _)
    (gives_str_replace x y z t u v fun _ => ⟨by simp [hu, hv], by simp [huv], hyz, hl⟩) ?_
  have hq' := hq
  unfold Txt.replace at hq'
  cases hc : ((occurrences x y 0 x.length (x.length + 1)).isEmpty || (y.length == 0 && z.length == 0))
  · rw [hc] at hq'
    simp only [Bool.false_eq_true, if_false] at hq' ⊢
    exact ⟨fits_replaced y hb, hq' _ _ (Nat.le_succ _)⟩
  · rw [hc] at hq'
    simp only [if_true] at hq' ⊢
    exact hq' t s.toks (Nat.le_refl _)
section
variable {C : Cx} {A : Around} {env : Env} {wr : Bool} {ρ : Rho} {σ : Sto} {E : Value → Shared → Prop} {s : Shared}
/-- statements, from where a token has been given out -/
structure ExT (C : Cx) (A : Around) (env : Env) (wr : Bool) (ρ : Rho) (σ : Sto) (ss : List Stmt) (P : Fl → Rho → Sto → Prop) : Prop where
  run : ∀ s, 0 < s.toks → Ok C σ s.heap → Fm C σ s.heap env wr ρ → ∀ E, wpAny C.M A (execs ss env) (Does C env wr σ s P) E s
theorem name_raw {x : Str} {pos : Pos} {d : D} {Q : Value → Shared → Prop} (f : Fm C σ s.heap env wr ρ) (hx : ρ.lookup x = some d) (h : ∀ v, Rep s.heap (C.V σ) v d → Q v s) (hd : (x == ("__debug__" : Str)) = false := by decide) (hc : (x == ("__classdict__" : Str)) = false := by decide) :
    wpAny C.M A (eval (.Name x pos) env) Q E s := by
  obtain ⟨ml, hn, hh⟩ := f.has
  obtain ⟨v, r, ⟨k, e⟩ | ⟨k | k, c, hl, hv⟩⟩ := hh x d hx
  · exact wpAny_Name (wpAny_loadName_local f.kind k hn e (h v r)) hd
  · exact wpAny_Name (wpAny_loadName_cell f.kind k hl hv (h v r)) hd
  · exact wpAny_Name (wpAny_loadName_free f.kind k hl hv (h v r) hc) hd
theorem ex1_if_len {l c : Expr} {b e : List Stmt} {k : Nat} {p1 p2 p3 pos : Pos} {P : Fl → Rho → Sto → Prop}
    (h : Bv C A env wr ρ σ l fun x σ₁ => if x then Ev C A env wr ρ σ₁ c fun a σ₂ => ∃ i, a = .int i ∧ (if i > 0 then ExT C A env wr ρ σ₂ b P else Ex C A env wr ρ σ₂ e P) else Ex C A env wr ρ σ₁ e P) :
    Ex1 C A env wr ρ σ (.If (.BoolOp .And [l, .Compare c [.Gt] [.Constant (.int 0) k p1] p2] p3) b e pos) P := by
  constructor
  intro s o f E
  refine wpAny_If (wpAny_isTrue_BoolOp ?_)
  simp only [allTrue]
  refine wpAny_bind (wpAny_mono (h.run s o f E) ?_ fun _ _ x => x)
  rintro x s₁ ⟨σ₁, p, n₁⟩
  cases x with
  | false =>
    refine wpAny_pure ?_
    simp only [Bool.false_eq_true, if_false] at p ⊢
    exact wpAny_mono (p.run s₁ n₁.ok (f.next n₁) E) (fun _ _ g => Does.next (n₁.nz f) g) fun _ _ x => x
  | true =>
    simp only [if_true] at p
    refine wpAny_bind (wpAny_isTrue_Compare1 (wpAny_mono (p.run s₁ n₁.ok (f.next n₁) E) ?_ fun _ _ x => x) rfl)
    rintro va s₂ ⟨_, σ₂, ⟨i, rfl, q⟩, ra, n₂⟩
    cases ra
    refine wpAny_Constant_int ?_
    refine PySem.P.gt_int (wpAny_truthy_bool ?_)
    have n₃ := (n₁.trans n₂).trans (nx_toks n₂.ok (s₂.toks + 1))
    by_cases hi : i > 0
    · rw [decide_eq_true hi]
      rw [if_pos hi] at q
      refine wpAny_pure ?_
      exact wpAny_mono (q.run _ (Nat.succ_pos _) n₃.ok (f.next n₃) E) (fun _ _ g => Does.next (n₃.nz f) g) fun _ _ x => x
    · rw [decide_eq_false hi]
      rw [if_neg hi] at q
      refine wpAny_pure ?_
      exact wpAny_mono (q.run _ n₃.ok (f.next n₃) E) (fun _ _ g => Does.next (n₃.nz f) g) fun _ _ x => x
theorem ext_if_name {x : Str} {i : Int} {r : Expr} {b e : List Stmt} {p1 p2 pos : Pos} {P : Fl → Rho → Sto → Prop} (hx : ρ.lookup x = some (.int i)) (hi : i ≠ 0) (h : ExT C A env wr ρ σ b P)
    (hd : (x == ("__debug__" : Str)) = false := by decide) (hc : (x == ("__classdict__" : Str)) = false := by decide) : ExT C A env wr ρ σ [.If (.BoolOp .Or [.Name x p1, r] p2) b e pos] P := by
  constructor
  intro s ht o f E
  refine wpAny_execs_cons (wpAny_If (wpAny_isTrue_BoolOp ?_))
  simp only [allTrue]
  refine wpAny_bind (wpAny_isTrue_value (name_raw f hx (fun v rv => ?_) hd hc) rfl)
  cases rv
  refine PySem.P.truthy_int ?_
  rw [bne_iff_ne.mpr hi]
  refine wpAny_pure ?_
  simp only [if_true]
  refine wpAny_mono (h.run s ht o f E) ?_ fun _ _ x => x
  rintro fl s' ⟨l, ρ', σ', p, rf, n, f'⟩
  cases rf with
  | nx => exact wpAny_execs_nil ⟨_, _, _, p, .nx, n, f'⟩
  | brk => exact ⟨_, _, _, p, .brk, n, f'⟩
  | cont => exact ⟨_, _, _, p, .cont, n, f'⟩
  | ret q => exact ⟨_, _, _, p, .ret q, n, f'⟩
theorem replace_raw {o : Expr} {a b : Str} {k1 k2 : Nat} {p1 p2 ap cp : Pos} {pl : Sem Bool} {Q : Value → Shared → Prop} (hab : (a == b) = false) (hb : b.length ≤ 14)
    (h : wpAny C.M A (eval o env) (fun v s₁ => ∃ x t, v = .str x t ∧ 0 < s₁.toks ∧ x.length ≤ 1048576 ∧ ∀ t' k, s₁.toks ≤ k → Q (.str (Txt.replace x a b) t') { s₁ with toks := k }) E s)
    (he : eval (.Call (.Attribute o "replace" ap) [.Constant (.str a) k1 p1, .Constant (.str b) k2 p2] [] cp) env = (do
      let ov ← eval o env
      standAt ap.atName
      let (f, first) ← holding [ov] (getMethod ov "replace" pl)
      callWith cp f first (backTo cp (starEach [.Constant (.str a) k1 p1, .Constant (.str b) k2 p2] env)) (backToKw cp (keywordEach [] env)))) :
    wpAny C.M A (eval (.Call (.Attribute o "replace" ap) [.Constant (.str a) k1 p1, .Constant (.str b) k2 p2] [] cp) env) Q E s := by
  rw [he]
  refine wpAny_bind (wpAny_mono h ?_ fun _ _ x => x)
  rintro _ s₁ ⟨x, t, rfl, ht, hx, q⟩
  refine wpAny_bind (wpAny_standAt (wpAny_bind (wpAny_holding (GM.replace ?_))))
  refine callWith_method1 ?_
  show wpAny _ _ (spliced ((false, eval (.Constant (.str a) k1 p1) env) :: (false, eval (.Constant (.str b) k2 p2) env) :: [])) _ _ _
  refine spliced_cons (Constant_str (spliced_cons (Constant_str (spliced_nil ?_))))
  refine replaceT (Nat.ne_of_gt ht) (Nat.succ_ne_zero _) (Nat.ne_of_lt (Nat.lt_succ_self _)) hab hx hb fun t' k hk => ?_
  exact q t' k (Nat.le_trans (Nat.le_succ_of_le (Nat.le_succ _)) hk)
/-- v = v.replace(a, b).replace(c, d) -/
theorem ext_replace {v : Str} {x a b c d : Str} {k1 k2 k3 k4 : Nat} {pv pn p1 p2 p3 p4 ap1 cp1 ap2 cp2 pos : Pos} {rest : List Stmt} {P : Fl → Rho → Sto → Prop} {pl1 pl2 : Sem Bool} (hx : ρ.lookup v = some (.str x))
    (hab : (a == b) = false) (hb : b.length ≤ 14) (hcd : (c == d) = false) (hd' : d.length ≤ 14) (hl : x.length ≤ 1048576) (hl2 : (Txt.replace x a b).length ≤ 1048576) (hst : CanSt env wr v)
    (h : Ex C A env wr (setR ρ v (.str (Txt.replace (Txt.replace x a b) c d))) σ rest P)
    (hd : (v == ("__debug__" : Str)) = false := by decide) (hc : (v == ("__classdict__" : Str)) = false := by decide)
    (he1 : eval (.Call (.Attribute (.Name v pn) "replace" ap1) [.Constant (.str a) k1 p1, .Constant (.str b) k2 p2] [] cp1) env = (do
      let ov ← eval (.Name v pn) env
      standAt ap1.atName
      let (f, first) ← holding [ov] (getMethod ov "replace" pl1)
      callWith cp1 f first (backTo cp1 (starEach [.Constant (.str a) k1 p1, .Constant (.str b) k2 p2] env)) (backToKw cp1 (keywordEach [] env))) := by rfl)
    (he2 : eval (.Call (.Attribute (.Call (.Attribute (.Name v pn) "replace" ap1) [.Constant (.str a) k1 p1, .Constant (.str b) k2 p2] [] cp1) "replace" ap2) [.Constant (.str c) k3 p3, .Constant (.str d) k4 p4] [] cp2) env = (do
      let ov ← eval (.Call (.Attribute (.Name v pn) "replace" ap1) [.Constant (.str a) k1 p1, .Constant (.str b) k2 p2] [] cp1) env
      standAt ap2.atName
      let (f, first) ← holding [ov] (getMethod ov "replace" pl2)
      callWith cp2 f first (backTo cp2 (starEach [.Constant (.str c) k3 p3, .Constant (.str d) k4 p4] env)) (backToKw cp2 (keywordEach [] env))) := by rfl)
    (hsw : swapsWith (.Call (.Attribute (.Call (.Attribute (.Name v pn) "replace" ap1) [.Constant (.str a) k1 p1, .Constant (.str b) k2 p2] [] cp1) "replace" ap2) [.Constant (.str c) k3 p3, .Constant (.str d) k4 p4] [] cp2) (some (.Name v pv)) pos.line env = pure false := by rfl) :
    ExT C A env wr ρ σ (.Assign [.Name v pv] (.Call (.Attribute (.Call (.Attribute (.Name v pn) "replace" ap1) [.Constant (.str a) k1 p1, .Constant (.str b) k2 p2] [] cp1) "replace" ap2) [.Constant (.str c) k3 p3, .Constant (.str d) k4 p4] [] cp2) pos :: rest) P := by
  constructor
  intro s ht o f E
  refine wpAny_execs_cons (wpAny_Assign_Name (replace_raw hcd hd' (replace_raw hab hb (name_raw f hx (fun w rw_ => ?_) hd hc) he1) he2) hsw)
  cases rw_
  refine ⟨_, _, rfl, ht, hl, fun t' k hk => ⟨_, _, rfl, Nat.lt_of_lt_of_le ht hk, hl2, fun t'' k' _ => ?_⟩⟩
  have n := nx_toks o k'
  refine wp_store n.ok (f.next n) (.str _ _) hst fun s' n' f' => ?_
  exact wpAny_mono (h.run s' n'.ok f' E) (fun _ _ g => Does.next ((n.nz f).trans n') g) fun _ _ x => x
end
end Mine
namespace Mine
section
variable {C : Cx} {A : Around} {env : Env} {wr : Bool} {ρ : Rho} {σ : Sto} {E : Value → Shared → Prop} {s : Shared}
theorem nsSet_new {prog : Program} {w : World} {d : Addr} {name : Str} {v : Value} {Q : Unit → Shared → Prop} (hd : s.heap.get? d = some (dictOf [] 0))
    (h : ∀ h' t tk, h'.get? d = some (dictOf [⟨PySem.hashStr w name, .str name t, v⟩] 1) → Heap.SameBut d s.heap h' → Q () { s with heap := h', toks := tk }) : wpAny (model prog w) A (nsSet d name v) Q E s := by
  unfold nsSet
  refine wpAny_bind (wpAny_bind (wpAny_askSetting (wpAny_pure (wpAny_bind (wpAny_mkText (wpAny_bind (wpAny_loadPart hd ?_)))))))
  dsimp only
  rw [aRefKeyMayBeTheName_at]
  have hu : ∀ hsh tk, (s.heap.update d (Obj.putName name hsh (.str name tk) v)).get? d = some (dictOf [⟨hsh, .str name tk, v⟩] 1) := fun hsh tk => by
    rw [Heap.get?_update_self _ hd (by rw [putName_dict]; rfl), putName_dict]; rfl
  rw [if_neg (by simp)]
  refine wpAny_updatePart (s := { s with toks := s.toks + 1 }) hd ?_
  exact h _ _ _ (hu _ _) (Heap.SameBut.update ..)
/-- three arguments and one more by its name, for the dict of the others -/
theorem bnd3p1 {fd : FuncData} {x y z t kn : Str} {a b c e : D} {R : List (Addr × Obj) → Rho → Prop}
    (hb : ∀ v u w q, bindArgs fd ⟨[v, u, w], [(kn, q)]⟩ = (do let d ← alloc { cls := .type "dict", data := .dict #[] }; nsSet d kn q; pure [(x, v), (y, u), (z, w), (t, .ref d)]))
    (h : ∀ d q tk, (∀ h S, Rep h S q e) → (∀ a o, C.h₀.get? a = some o → a < d) → R [(d, dictOf [⟨PySem.hashStr C.w kn, .str kn tk, q⟩] 1)] [(x, a), (y, b), (z, c), (t, .raw (.ref d))])
    (he : ∀ v h S, Rep h S v e → ∀ h' S', Rep h' S' v e) : BndP C fd [a, b, c] [(kn, e)] σ R := by
  intro A s vs ks o r q E
  cases q with | cons q1 q =>
  cases q
  cases r with | cons r1 r => cases r with | cons r2 r => cases r with | cons r3 r =>
  cases r
  show wpAny C.M A (bindArgs fd ⟨[_, _, _], [(kn, _)]⟩) _ E s
  rw [hb]
  refine wpAny_bind (wpAny_alloc (wpAny_bind ?_))
  have n := nx_push o (dictOf [] 0)
  have hd : (s.heap.push (dictOf [] 0)).get? s.heap.objs.size = some (dictOf [] 0) := Heap.get?_push_size _ rfl
  refine nsSet_new hd fun h' tk tk' e' sb => wpAny_pure ?_
  have keep : ∀ a q, s.heap.get? a = some q → h'.get? a = some q := fun a q ha => (sb.2 a (Nat.ne_of_lt (Heap.lt_size ha))).trans (Heap.get?_push_of_some _ ha)
  have n' : Nx C σ s σ { s with heap := h', toks := tk' } := Nx.of_keeps (s' := { s with heap := h', toks := tk' }) o keep rfl rfl
  exact ⟨_, _, [_, _, _, _], h s.heap.objs.size _ tk (he _ _ _ q1) (fun a o' e => Heap.lt_size (o.base a o' e)), rfl, .cons (r1.next n') (.cons (r2.next n') (.cons (r3.next n') (.cons (.raw _) .nil))), n', pin1_ok o keep none_at_size e'⟩
theorem dict1_at (d : Addr) (prog : Program) (w : World) (kn : Str) (tk : Tok) (v : Value) (h : Heap) (e : h.get? d = some (dictOf [⟨PySem.hashStr w kn, .str kn tk, v⟩] 1)) : h.DictAt (PySem.strKind prog w) d [(kn, v)] 1 := by
  refine ⟨_, _, e, ⟨rfl, rfl, rfl⟩, rfl, fun en he => ?_, ?_, by simp⟩
  · simp at he
    subst he
    exact ⟨kn, by show Value.isStrOf kn (.str kn tk) = true; simp [Value.isStrOf], rfl⟩
  · exact .cons (by show Value.isStrOf kn (.str kn tk) = true; simp [Value.isStrOf]) rfl .nil
end
end Mine
namespace Mine
section
variable {C : Cx} {A : Around} {env : Env} {wr : Bool} {ρ : Rho} {σ : Sto} {E : Value → Shared → Prop} {s : Shared} {P : D → Sto → Prop}
/-- the parts of a joined text -/
noncomputable def Jn (C : Cx) (A : Around) (env : Env) (wr : Bool) (ρ : Rho) : List Expr → Str → Sto → (D → Sto → Prop) → Prop
  | [], out, σ, P => P (.str out) σ
  | e :: es, out, σ, P => Ev C A env wr ρ σ e fun d σ₁ => ∃ x, d = .str x ∧ out.length + x.length ≤ sizeLine ∧ Jn C A env wr ρ es (out ++ x) σ₁ P
theorem jn_nil {out : Str} (h : P (.str out) σ) : Jn C A env wr ρ [] out σ P := h
theorem jn_cons {e : Expr} {es : List Expr} {out : Str} (h : Ev C A env wr ρ σ e fun d σ₁ => ∃ x, d = .str x ∧ out.length + x.length ≤ sizeLine ∧ Jn C A env wr ρ es (out ++ x) σ₁ P) : Jn C A env wr ρ (e :: es) out σ P := h
theorem wp_join : ∀ {es : List Expr} {out : Str} {σ : Sto} {s : Shared}, Jn C A env wr ρ es out σ P → out.length ≤ sizeLine → Ok C σ s.heap → Fm C σ s.heap env wr ρ → wpAny C.M A (joinParts out (evalEach es env)) (Gets C σ s P) E s
  | [], out, σ, s, h, hs, o, f => joinParts_nilE (joinParts_nil ⟨_, _, h, .str _ _, nx_toks o _⟩ hs)
  | e :: es, out, σ, s, h, hs, o, f => by
    refine joinParts_consE ?_
    unfold joinParts
    refine wpAny_bind (wpAny_mono (Ev.run h s o f E) ?_ fun _ _ x => x)
    rintro v s₁ ⟨_, σ₁, ⟨x, rfl, hsz, j⟩, r, n⟩
    cases r
    refine wpAny_bind (wpAny_of_eq (a := some x) rfl ?_)
    dsimp only
    rw [if_neg (by omega)]
    exact wpAny_mono (wp_join j (by show (out ++ x).length ≤ _; have : (out ++ x).length = out.length + x.length := by show (out.cps ++ x.cps).size = _; simp [Str.length]
                                    omega) n.ok (f.next n)) (fun _ _ g => Gets.next n g) fun _ _ x => x
theorem ev_joined {e₁ e₂ : Expr} {es : List Expr} {pos : Pos} (h : Jn C A env wr ρ (e₁ :: e₂ :: es) Str.empty σ P) : Ev C A env wr ρ σ (.JoinedStr (e₁ :: e₂ :: es) pos) P := by
  constructor
  intro s o f E
  exact JoinedStr_many (wp_join h (by decide) o f)
theorem ev_fmt_s {e : Expr} {pos : Pos} (h : Ev C A env wr ρ σ e fun d σ₁ => ∃ x, d = .str x ∧ x.length ≤ sizeLine ∧ P (.str x) σ₁) : Ev C A env wr ρ σ (.FormattedValue e 115 none pos) P := by
  constructor
  intro s o f E
  refine wpAny_FormattedValue_s (wpAny_mono (h.run s o f E) ?_ fun _ _ x => x)
  rintro v s₁ ⟨_, σ₁, ⟨x, rfl, hs, p⟩, r, n⟩
  cases r
  refine SB.convS_str (fun t' k => SB.field_str (fun t'' k' => ⟨_, _, p, .str _ _, n.trans (nx_toks n.ok _)⟩) hs) hs
end
end Mine
namespace Mine
section
variable {C : Cx} {A : Around} {env : Env} {wr : Bool} {ρ : Rho} {σ : Sto} {P : D → Sto → Prop}
theorem gm_replace {x : Str} : Gm C A (.str x) "replace" (.builtin "str.replace") σ := by constructor; rintro s _ pl o ⟨⟩ E Q h; exact GM.replace h
open Builtin Builtin.Str in
/-- a replace that finds nothing -/
theorem ca_replace_none {x y z : Str} (hn : (occurrences x y 0 x.length (x.length + 1)).isEmpty = true) (h : P (.str x) σ) : Ca C A (.builtin "str.replace") [.str x, .str y, .str z] [] σ P := by
  refine ca_intro fun s vs o r E => ?_
  obtain ⟨_, _, _, rfl, r1, r2, r3⟩ := r.inv3
  cases r1
  cases r2
  cases r3
  refine call_gives PySem.F.slot_str_replace (typeIs_str _ _ _) PySem.F.entry_str_replace (PySem.F.args_str_replace_3 _ _ _) (gives_str_replace x y z _ _ _ fun hc => by rw [hn] at hc; cases hc) ?_
  rw [hn, Bool.true_or, if_pos rfl]
  exact ⟨_, _, h, .str _ _, .refl o⟩
end
end Mine
namespace Mine
open_top hd for PySem.Challenge.rw_ny0205_03
end Mine
namespace Mine
noncomputable def P0 : Params := { strHash := fun _ => 0, shareClass := fun _ => 0, mergeTok := id, idOf := fun _ => 0, idOfShared := fun _ _ => 0, followText := fun _ => false, idOfImm := fun _ => 0 }
noncomputable abbrev KK := Mine.hd.heap_39
noncomputable def fd (a : Addr) : FuncData := match (KK P0).lookup a with | some ⟨_, _, .func f, _⟩ => f | _ => default
noncomputable def fbody (a : Addr) : List Stmt := match (fd a).body with | .stmts b => b | _ => []
noncomputable def tup (a : Addr) : Array Value := match (KK P0).lookup a with | some ⟨_, _, .seq vs _, _⟩ => vs | _ => #[]
noncomputable def fldsAt (a : Addr) : Array Value := match (KK P0).lookup a with | some ⟨_, _, .fields vs, _⟩ => vs | _ => #[]
section
variable {C : Cx} {A : Around} {σ : Sto} {P : D → Sto → Prop}
theorem mgK (X : (KK C.w.params).In C.h₀) {x : Str} {v : Value} (e : nsIn (KK C.w.params) mainGlobals x = some (some v)) : C.mg x = some v := mg_of X C.g e
theorem mgN (X : (KK C.w.params).In C.h₀) {x : Str} (e : nsIn (KK C.w.params) mainGlobals x = some none) : C.mg x = none := mg_none_of X C.g e
theorem fn_init (X : (KK C.w.params).In C.h₀) : FnAt C 83 (fd 83) (fbody 83) := ⟨⟨_, X 83 _ rfl, rfl⟩, codeRec_of X (by rfl), rfl, rfl⟩
theorem fn_conv (X : (KK C.w.params).In C.h₀) : FnAt C 90 (fd 90) (fbody 90) := ⟨⟨_, X 90 _ rfl, rfl⟩, codeRec_of X (by rfl), rfl, rfl⟩
theorem fn_setitem (X : (KK C.w.params).In C.h₀) : FnAt C 104 (fd 104) (fbody 104) := ⟨⟨_, X 104 _ rfl, rfl⟩, codeRec_of X (by rfl), rfl, rfl⟩
theorem fn_delitem (X : (KK C.w.params).In C.h₀) : FnAt C 109 (fd 109) (fbody 109) := ⟨⟨_, X 109 _ rfl, rfl⟩, codeRec_of X (by rfl), rfl, rfl⟩
theorem fn_add_header (X : (KK C.w.params).In C.h₀) : FnAt C 188 (fd 188) (fbody 188) := ⟨⟨_, X 188 _ rfl, rfl⟩, codeRec_of X (by rfl), rfl, rfl⟩
theorem fn_int2ap (X : (KK C.w.params).In C.h₀) : FnAt C 45 (fd 45) (fbody 45) := ⟨⟨_, X 45 _ rfl, rfl⟩, codeRec_of X (by rfl), rfl, rfl⟩
end
theorem ite_t {p q : Prop} (h : p) : if true = true then p else q := h
theorem ite_f {p q : Prop} (h : q) : if false = true then p else q := h
local macro_rules | `(tactic| walk_at "SUB") => `(tactic| first | exact Sub.refl | exact SubL.sub (by repeat (first | exact trivial | refine ⟨rfl, ?_⟩)))
local macro_rules | `(tactic| walk_at "CAN") => `(tactic| first | exact .inl rfl | exact .inr ⟨rfl, rfl, rfl⟩)
local macro_rules | `(tactic| walk_at "BOOT") => `(tactic| first | exact boot_len | exact boot_int | exact boot_abs | exact boot_divmod | exact boot_chr | exact boot_ord | exact boot_range | exact boot_sum | exact boot_type | exact boot_str | exact boot_list | exact boot_bytes | exact boot_min | exact boot_sorted)
local macro_rules | `(tactic| walk_at "EV") => `(tactic| first
  | refine ev_var rfl ?_
  | refine ev_int ?_
  | refine ev_str ?_
  | refine ev_bytes ?_
  | refine ev_none ?_
  | refine ev_bool ?_
  | (refine ev_call ?_; (first
      | (refine ev_builtin (mgN (by assumption) rfl) (by walk_at "BOOT") ?_; refine ⟨_, rfl, (by first | exact kp_builtin | exact kp_type), ?_⟩)
      | (refine ev_global (mgK (by assumption) rfl) ?_; refine ⟨_, rfl, kp_K (by assumption) rfl, ?_⟩)))
  | refine ev_global (mgK (by assumption) rfl) ?_
  | refine ev_builtin (mgN (by assumption) rfl) (by walk_at "BOOT") ?_
  | refine ev_binop ?_
  | walk_at "XE"
  | refine ev_compare ?_
  | refine ev_method ?_
  | refine ev_list ?_
  | refine ev_tuple ?_
  | refine ev_cut ?_
  | refine ev_sub ?_
  | refine ev_ifexp ?_
  | refine ev_neg ?_
  | refine ev_listcomp ?_)
local macro_rules | `(tactic| walk_at "S") => `(tactic| first
  | ((with_reducible show Ev _ _ _ _ _ _ _ _); walk_at "EV")
  | ((with_reducible show EvL _ _ _ _ _ _ _ _); first | refine evl_nil ?_ | refine evl_cons ?_)
  | ((with_reducible show EvK _ _ _ _ _ _ _ _); first | refine evk_nil ?_ | refine evk_cons ?_)
  | ((with_reducible show EvPart _ _ _ _ _ _ _ _); first | refine evp_none ?_ | refine evp_some ?_)
  | ((with_reducible show Op2 _ _ _ _ _ _ _); first
      | refine op_add_int ?_
      | refine op_fdiv_int (by decide) (by decide) ?_
      | refine op_mod_int (by decide) ?_
      | refine op_eq_int ?_
      | refine op_ne_int ?_
      | refine op_le_int ?_
      | refine op_is_raw rfl ?_
      | refine op_isnot_raw rfl ?_
      | refine op_is_str ?_
      | refine op_isnot_none ?_
      | refine op_isnot_str ?_
      | refine op_eq_str ?_
      | refine op_ne_str ?_)
  | ((with_reducible show Ex1 _ _ _ _ _ _ _ _); first
      | refine ex1_assign ?_ (by walk_at "CAN")
      | refine ex1_return ?_
      | refine ex1_if ?_
      | refine ex1_expr ?_
      | refine ex1_for_inv ?_
      | refine ex1_assign_t ?_
      | refine ex1_assign_comp ?_ (by walk_at "CAN"))
  | ((with_reducible show Bv _ _ _ _ _ _ _ _); first
      | refine bv_compare ?_
      | refine bv_or2 ?_
      | refine bv_value ?_)
  | ((with_reducible show AsgL _ _ _ _ _ _ _ _ _); first | refine asgl_nil ?_ | refine asgl_cons ?_)
  | ((with_reducible show Asg _ _ _ _ _ _ _ _ _); refine asg_name (by walk_at "CAN") ?_)
  | ((with_reducible show Ca _ _ _ _ _ _ _); first
      | walk_at "XC"
      | refine ca_abs ?_
      | refine ca_type_str ?_
      | refine ca_int ?_
      | refine ca_ord ?_
      | refine ca_range1 ?_
      | refine ca_range2 ?_
      | refine ca_divmod (by decide) (by decide) ?_)
  | ((with_reducible show Tru _ _ _ _ _); first
      | refine tru_bool ?_
      | refine tru_none ?_)
  | ((with_reducible show ite _ _ _); first | refine ite_t ?_ | refine ite_f ?_)
  | ((with_reducible show Exists _); first
      | refine ⟨_, rfl, ?_⟩
      | refine ⟨_, gm_lower, kp_builtin, ?_⟩
      | refine ⟨_, gm_join, kp_builtin, ?_⟩
      | walk_at "XG")
  | ((with_reducible show Ifs _ _ _ _ _ _ _); first | refine ifs_one ?_ | refine ifs_nil ?_)
  | ((with_reducible show And _ _); first | refine op_item_tuple (by decide) (by decide) rfl ?_ | refine op_item_list (by decide) (by decide) rfl ?_ | refine ⟨rfl, ?_⟩ | refine ⟨(by walk_at "SUB"), ?_⟩ | refine ⟨Nat.le_of_ble_eq_true rfl, ?_⟩)
  | walk_at "XS"
  | refine ex_cons ?_
  | refine ex_nil ?_)
/-- the A-P word of a number, as octets -/
noncomputable def apL (n : Nat) : List UInt8 := if n = 0 then [] else apL (n / 16) ++ [UInt8.ofNat (65 + n % 16)]
termination_by n
decreasing_by omega
theorem apL_zero : apL 0 = [] := by rw [apL]; simp
theorem apL_pos {n : Nat} (h : n ≠ 0) : apL n = apL (n / 16) ++ [UInt8.ofNat (65 + n % 16)] := by rw [apL]; simp [h]
theorem apL_len : ∀ (k n : Nat), n < 16 ^ k → (apL n).length ≤ k
  | 0, n, h => by have : n = 0 := by simpa using h
                  subst this; rw [apL_zero]; simp
  | k + 1, n, h => by
    by_cases h0 : n = 0
    · subst h0; rw [apL_zero]; simp
    · rw [apL_pos h0]
      have := apL_len k (n / 16) (by rw [Nat.pow_succ] at h; omega)
      simp; omega
noncomputable def apWord : List UInt8 := [65, 66, 67, 68, 69, 70, 71, 72, 73, 74, 75, 76, 77, 78, 79, 80]
theorem apCut (m : Nat) (h : m < 16) : cutL apWord (some (m : Int)) (some ((m : Int) + 1)) = [UInt8.ofNat (65 + m)] := by
  have : ((m : Int) + 1) = ((m + 1 : Nat) : Int) := by omega
  rw [this, cutL_mid]
  have : ∀ m, m < 16 → ((apWord.take (m + 1)).drop m) = [UInt8.ofNat (65 + m)] := by decide
  exact this m h
section
variable {C : Cx} {A : Around} {σ : Sto} {P : D → Sto → Prop}
theorem int2ap (X : (KK C.w.params).In C.h₀) (rm : Rm 4 A) {n : Int} (hn : n.natAbs < 16 ^ 1000) (h : P (.bytes (apL n.natAbs).toArray) σ) : Ca C A (.ref 45) [.int n] [] σ P := by
  refine ca_fun (n := 3) rm (fn_int2ap X) (bnd1 (x := "num") (fun _ => rfl) ⟨rfl, fun L => ?_⟩)
  have rm' := rm.deeper (fenv (fd 45) 45 L)
  repeat walk_at "S"
  refine ex1_while (fun k ρ' σ' => σ' = σ ∧ ∃ m : Nat, ∃ v : List UInt8, ρ' = ([("num", .int m), ("val", .bytes v.toArray), ("AP", .bytes apWord.toArray)] : Rho) ∧ apL n.natAbs = apL m ++ v ∧ k = m) n.natAbs ⟨rfl, n.natAbs, [], ?_, ?_, rfl⟩ ?_
  · have : (if n < 0 then -n else n) = (n.natAbs : Int) := by split <;> omega
    rw [this]; rfl
  · simp
  rintro m ρ₁ _ ⟨rfl, _, v, rfl, hv, rfl⟩
  repeat walk_at "S"
  refine tru_int ?_
  split
  · rename_i hm
    have hm : m ≠ 0 := by simpa using hm
    repeat walk_at "S"
    refine asg_tuple rm'.handled rfl ?_
    repeat walk_at "S"
    have e1 : (m : Int) / 16 = ((m / 16 : Nat) : Int) := by omega
    have e2 : (m : Int) % 16 = ((m % 16 : Nat) : Int) := by omega
    have hlen : v.length ≤ 1000 := by
      have := apL_len _ _ hn
      rw [hv] at this; simp at this; omega
    refine cut_bytes (by decide) ?_
    rw [show apWord.toArray.toList = apWord from rfl, e2, apCut _ (Nat.mod_lt _ (by decide))]
    repeat walk_at "S"
    refine op_add_bytes (by simp; omega) ?_
    refine ex_nil ⟨m / 16, by omega, [("num", .int ((m / 16 : Nat) : Int)), ("val", .bytes ([UInt8.ofNat (65 + m % 16)] ++ v).toArray), ("AP", .bytes apWord.toArray)], SubL.sub ⟨?_, ?_, rfl, trivial⟩, rfl, _, _, rfl, ?_, rfl⟩
    · rw [e1]; rfl
    · simp; rfl
    · rw [hv, apL_pos hm]; simp
  · rename_i hm
    repeat walk_at "S"
    have hm : m = 0 := by simpa using hm
    subst hm
    rw [apL_zero] at hv
    simpa [hv] using h
end

-- the regular expressions
theorem getD_mem {x : Array Nat} {i : Nat} (h : i < x.size) : x.getD i 0 ∈ x.toList := by
  rw [Array.getD_eq_getD_getElem?, Array.getElem?_eq_getElem h]; simp
noncomputable def codeOf (a : Array Value) : Array Nat := (a.toList.map fun v => (Builtin.Re.reRawOf v).toNat).toArray
theorem codeOf_eq (a : Array Value) : (a.map Builtin.Re.reRawOf).map (·.toNat) = codeOf a := by
  cases a; simp [codeOf]
theorem misses_name (x : Str) (h : clean x) : Misses (((tup 54).map Builtin.Re.reRawOf).map (·.toNat)) x.cps := by
  rw [codeOf_eq]
  refine ⟨fun i hi seen => ?_, by rfl⟩
  obtain ⟨h1, h2⟩ := h _ (getD_mem hi)
  generalize x.cps.getD i 0 = c at h1 h2
  have e : ∀ c seen, Sre.inSet (codeOf (tup 54)) c (codeOf (tup 54)).size 5 true seen =
      if (decide (0 ≤ c) && decide (c ≤ 31)) = true then .ok (true, Sre.Seen.add seen 22) else if (c == 127) = true then .ok (true, Sre.Seen.add (Sre.Seen.add seen 22) 16) else .ok (false, Sre.Seen.add (Sre.Seen.add (Sre.Seen.add seen 22) 16) 0) := fun c seen => rfl
  rw [e, if_neg (by simp; omega), if_neg (by simpa using h2)]
  exact ⟨_, rfl⟩
theorem misses_value (x : Str) (h : clean x) : Misses (((tup 59).map Builtin.Re.reRawOf).map (·.toNat)) x.cps := by
  rw [codeOf_eq]
  refine ⟨fun i hi seen => ?_, by rfl⟩
  obtain ⟨h1, h2⟩ := h _ (getD_mem hi)
  generalize x.cps.getD i 0 = c at h1 h2
  have e : ∀ c seen, Sre.inSet (codeOf (tup 59)) c (codeOf (tup 59)).size 5 true seen =
      if (decide (c < 256) && ((codeOf (tup 59)).getD (5 + (1 + c / 32)) 0).testBit (c % 32)) = true then .ok (true, Sre.Seen.add seen 9) else .ok (false, Sre.Seen.add (Sre.Seen.add seen 9) 0) := fun c seen => rfl
  have f : ∀ c, c < 256 → 32 ≤ c → c ≠ 127 → ((codeOf (tup 59)).getD (5 + (1 + c / 32)) 0).testBit (c % 32) = false := by decide +kernel
  rw [e, if_neg]
  · exact ⟨_, rfl⟩
  · by_cases hc : c < 256
    · rw [f c hc h1 h2]; simp
    · simp [hc]
section
variable {C : Cx} {A : Around} {σ : Sto} {P : D → Sto → Prop}
theorem conv (X : (KK C.w.params).In C.h₀) (rm : Rm 4 A) {self : D} {x : Str} {b : Bool} (hx : clean x) (hsz : x.length < 2 ^ 62) (h : P (.str x) σ) : Ca C A (.ref 90) [self, .str x] [("name", .bool b)] σ P := by
  refine ca_fun (n := 3) rm (fn_conv X) (bnd2k (x := "self") (y := "value") (z := "name") (fun _ _ _ => rfl) ⟨rfl, fun L => ?_⟩)
  have rm' := rm.deeper (fenv (fd 90) 90 L)
  repeat walk_at "S"
  cases b
  · repeat walk_at "S"
    refine ⟨_, gm_search (X 60 _ rfl) rfl rfl, kp_builtin, ?_⟩
    repeat walk_at "S"
    refine ca_search (b := 59) (X 60 _ rfl) rfl rfl (X 59 _ rfl) (misses_value x hx) hsz ?_
    repeat walk_at "S"
    exact h
  · repeat walk_at "S"
    refine ⟨_, gm_search (X 55 _ rfl) rfl rfl, kp_builtin, ?_⟩
    repeat walk_at "S"
    refine ca_search (b := 54) (X 55 _ rfl) rfl rfl (X 54 _ rfl) (misses_name x hx) hsz ?_
    repeat walk_at "S"
    exact h
end
/-- a name that the table takes -/
structure Nm (x : Str) : Prop where
  clean : clean x
  low : Mine.clean (Txt.lower x)
  len : x.length ≤ 5592405
  lowLen : (Txt.lower x).length < 2 ^ 62
theorem Nm.lt {x : Str} (h : Nm x) : x.length < 2 ^ 62 := Nat.lt_of_le_of_lt h.len (by decide)
noncomputable def lowEq (a b : Str) : Bool := (Txt.lower a).cps.toList == (Txt.lower b).cps.toList
noncomputable def pairD (r : Str × Str) : D := .tuple [.str r.1, .str r.2]
noncomputable def hdrs (rs : List (Str × Str)) : List D := rs.map pairD
/-- the rows of a table -/
structure Rows (rs : List (Str × Str)) : Prop where
  len : rs.length ≤ 1000
  nm : ∀ r ∈ rs, Nm r.1
theorem hdrs_len {rs : List (Str × Str)} (h : Rows rs) : (hdrs rs).length ≤ sizeLine := by
  have := h.len
  have : sizeLine = 16777216 := rfl
  simp [hdrs]; omega
abbrev Hc : Addr := 191
noncomputable def found (rs : List (Str × Str)) (x : Str) : D := ((rs.find? fun r => lowEq r.1 x).map fun r => D.str r.2).getD .none
theorem filterMap_hdrs {g : D → Option D} {p : Str × Str → Bool} {f : Str × Str → D} (hg : ∀ r, g (pairD r) = if p r then some (f r) else none) (rs : List (Str × Str)) : (hdrs rs).filterMap g = (rs.filter p).map f := by
  induction rs with
  | nil => rfl
  | cons r rs ih =>
    show (pairD r :: hdrs rs).filterMap g = _
    rw [List.filterMap_cons, hg, List.filter_cons]
    by_cases hp : p r = true <;> simp [hp, ih]
section
variable {C : Cx} {A : Around} {σ : Sto} {P : D → Sto → Prop}
theorem clsOk (C : Cx) : ClsOk (KK C.w.params) Hc := ⟨rfl, rfl, fun _ _ _ _ => rfl⟩
end
local macro_rules | `(tactic| walk_at "XG") => `(tactic| first
  | (refine ⟨_, gm_own (K := KK _) (by assumption) (by assumption) (clsOk _) rfl rfl rfl, kp_K (K := KK _) (by assumption) rfl, ?_⟩))
local macro_rules | `(tactic| walk_at "XE") => `(tactic| refine ev_headers (K := KK _) (by assumption) (by assumption) (clsOk _) ?_)
local macro_rules | `(tactic| walk_at "NM") => `(tactic| first
  | exact Nm.clean (by assumption) | exact Nm.low (by assumption) | exact Nm.lt (by assumption) | exact Nm.lowLen (by assumption) | exact Nm.len (by assumption) | assumption)
local macro_rules | `(tactic| walk_at "XC") => `(tactic| first
  | refine ca_lower (by walk_at "NM") ?_
  | refine conv (by assumption) (Rm.le (by assumption) (by decide)) (by walk_at "NM") (by walk_at "NM") ?_)

section
variable {C : Cx} {A : Around} {σ : Sto} {P : D → Sto → Prop}
theorem delitem (X : (KK C.w.params).In C.h₀) (rm : Rm 6 A) {x l : Addr} {vs : List Value} {rs : List (Str × Str)} {nm : Str} (T : Tb C Hc x l) (hr : Rows rs) (hn : Nm nm)
    (h : ∀ us, P .none [(l, us, hdrs (rs.filter fun r => !lowEq r.1 nm))]) : Ca C A (.ref 109) [.raw (.ref x), .str nm] [] [(l, vs, hdrs rs)] P := by
  refine ca_fun (n := 5) rm (fn_delitem X) (bnd2 (x := "self") (y := "name") (fun _ _ => rfl) ⟨rfl, fun L => ?_⟩)
  have rm' := rm.deeper (fenv (fd 109) 109 L)
  have hin : (l, vs, hdrs rs) ∈ [(l, vs, hdrs rs)] := List.mem_singleton_self _
  repeat walk_at "S"
  refine ⟨_, _, itr_store rm'.handled hin, hin, hdrs_len hr, fun Dd Lc => comp_go (fun d => match d with | .tuple [.str k, .str v] => if !lowEq k nm then some (pairD (k, v)) else none | _ => none) _ .refl hin ?_ ?_⟩
  · intro d hd
    obtain ⟨⟨k, v⟩, hm, rfl⟩ := List.mem_map.mp hd
    have hk := hr.nm _ hm
    repeat walk_at "S"
    split
    · rename_i hq
      repeat walk_at "S"
      exact if_pos hq
    · rename_i hq
      exact if_neg hq
  · rw [filterMap_hdrs (p := fun r => !lowEq r.1 nm) (f := pairD) fun r => rfl]
    refine asg_all ?_
    repeat walk_at "S"
    have l1 := hr.len
    have l2 : sizeLine = 16777216 := rfl
    have l3 := List.length_filter_le (fun r => !lowEq r.1 nm) rs
    refine ⟨_, _, _, rfl, hin, by simp [hdrs]; omega, fun us => ?_⟩
    rw [updS_one]
    repeat walk_at "S"
    exact h us
theorem setitem (X : (KK C.w.params).In C.h₀) (rm : Rm 8 A) {x l : Addr} {vs : List Value} {rs : List (Str × Str)} {nm v : Str} (T : Tb C Hc x l) (hr : Rows rs) (hn : Nm nm) (hv : clean v) (hvl : v.length < 2 ^ 62)
    (h : ∀ us, P .none [(l, us, hdrs ((rs.filter fun r => !lowEq r.1 nm) ++ [(nm, v)]))]) : Ca C A (.ref 104) [.raw (.ref x), .str nm, .str v] [] [(l, vs, hdrs rs)] P := by
  refine ca_fun (n := 7) rm (fn_setitem X) (bnd3 (x := "self") (y := "name") (z := "val") (fun _ _ _ => rfl) ⟨rfl, fun L => ?_⟩)
  have rm' := rm.deeper (fenv (fd 104) 104 L)
  refine ex_cons (ex1_delitem X T rfl rfl rfl ?_)
  repeat walk_at "S"
  refine delitem X (rm'.le (by decide)) T hr hn fun us => ?_
  have hin : (l, us, hdrs (rs.filter fun r => !lowEq r.1 nm)) ∈ [(l, us, hdrs (rs.filter fun r => !lowEq r.1 nm))] := List.mem_singleton_self _
  repeat walk_at "S"
  refine ⟨_, gm_append hin, kp_builtin, ?_⟩
  repeat walk_at "S"
  have l1 := hr.len
  have l2 : sizeLine = 16777216 := rfl
  have l3 := List.length_filter_le (fun r => !lowEq r.1 nm) rs
  refine ca_append hin (by simp [hdrs]; omega) fun w => ?_
  rw [updS_one]
  repeat walk_at "S"
  have := h (us ++ [w])
  rw [hdrs, List.map_append] at this
  exact this
end
theorem hdrs_app (rs : List (Str × Str)) (a b : Str) : hdrs (rs ++ [(a, b)]) = hdrs rs ++ [D.tuple [.str a, .str b]] := by rw [hdrs, List.map_append]; rfl
section
variable {C : Cx} {A : Around} {σ : Sto} {P : D → Sto → Prop}
theorem fn_formatparam (X : (KK C.w.params).In C.h₀) : FnAt C 68 (fd 68) (fbody 68) := ⟨⟨_, X 68 _ rfl, rfl⟩, codeRec_of X (by rfl), rfl, rfl⟩
theorem fn_str (X : (KK C.w.params).In C.h₀) : FnAt C 167 (fd 167) (fbody 167) := ⟨⟨_, X 167 _ rfl, rfl⟩, codeRec_of X (by rfl), rfl, rfl⟩
theorem fn_bytes (X : (KK C.w.params).In C.h₀) : FnAt C 174 (fd 174) (fbody 174) := ⟨⟨_, X 174 _ rfl, rfl⟩, codeRec_of X (by rfl), rfl, rfl⟩
noncomputable def escS (x : Str) : Str := Txt.replace (Txt.replace x (Str.ofString "\\") (Str.ofString "\\\\")) (Str.ofString "\"") (Str.ofString "\\\"")
noncomputable def paramS (k x : Str) : Str := if x.length = 0 then k else k ++ Str.ofString "=\"" ++ escS x ++ Str.ofString "\""
theorem bnd2i {K : Frag} {fd : FuncData} {x y z : Str} {d e : D} {i : Int} {tk : Tok} {R : Rho → Sto → Prop} (X : K.In C.h₀) (hb : ∀ v u S, peek K S (bindArgs fd ⟨[v, u], []⟩) = some [(x, v), (y, u), (z, .int i tk)]) (h : R [(x, d), (y, e), (z, .int i)] σ) : Bnd C fd [d, e] [] σ R :=
  bnd_pure [(x, d), (y, e), (z, .int i)] h fun s vs ks o r q => by
    cases q; cases r with | cons r1 r => cases r with | cons r2 r => cases r; exact ⟨[_, _, _], kp_binds (X.keeps o.base) (hb _ _), .cons r1 (.cons r2 (.cons (.int _ _) .nil))⟩
theorem formatparam (X : (KK C.w.params).In C.h₀) (rm : Rm 4 A) {k x : Str} (hk : k.length ≤ 1000) (hx : x.length ≤ 100) (h1 : (Txt.replace x (Str.ofString "\\") (Str.ofString "\\\\")).length ≤ 1000) (h2 : (escS x).length ≤ 1000) (h : P (.str (paramS k x)) σ) :
    Ca C A (.ref 68) [.str k, .str x] [] σ P := by
  refine ca_fun (n := 3) rm (fn_formatparam X) (bnd2i (x := "param") (y := "value") (z := "quote") (i := 1) X (fun _ _ _ => rfl) ⟨rfl, fun L => ?_⟩)
  have rm' := rm.deeper (fenv (fd 68) 68 L)
  refine ex_cons (ex1_if_len ?_)
  repeat walk_at "S"
  refine ca_len_str (by have : sizeLine = 16777216 := rfl; omega) ⟨_, rfl, ?_⟩
  split
  · rename_i hp
    refine ext_if_name rfl (by decide) (ext_replace rfl (by decide +kernel) (by decide) (by decide +kernel) (by decide) (by omega) (by omega) (by walk_at "CAN") ?_)
    have hs : sizeLine = 16777216 := rfl
    have e1 : (Str.ofString "=\"").length = 2 := by decide
    have e2 : (Str.ofString "\"").length = 1 := by decide
    have ap : ∀ a b : Str, (a ++ b).length = a.length + b.length := fun a b => by show (a.cps ++ b.cps).size = _; simp [Str.length]
    have e0 : Str.empty.length = 0 := rfl
    refine ex_cons (ex1_return (ev_joined (jn_cons (ev_fmt_s (ev_var rfl ⟨_, rfl, by omega, _, rfl, by omega, jn_cons (ev_str ⟨_, rfl, by simp only [ap]; omega, jn_cons (ev_fmt_s (ev_var rfl ⟨_, rfl, ?_, _, rfl, ?_, jn_cons (ev_str ⟨_, rfl, ?_, jn_nil ?_⟩)⟩))⟩)⟩)))))
    · show (escS x).length ≤ _; omega
    · show _ + (escS x).length ≤ _; simp only [ap]; omega
    · show (Str.empty ++ k ++ Str.ofString "=\"" ++ escS x).length + _ ≤ _; simp only [ap]; omega
    have : paramS k x = Str.empty ++ k ++ Str.ofString "=\"" ++ escS x ++ Str.ofString "\"" := by
      rw [paramS, if_neg (by omega)]
      have : Str.empty ++ k = k := by cases k; show Str.mk (#[] ++ _) = _; simp
      rw [this]
    rw [this] at h
    exact h
  · rename_i hp
    repeat walk_at "S"
    rw [paramS, if_pos (by omega)] at h
    exact h
theorem bind_k (v u w q : Value) : bindArgs (fd 188) ⟨[v, u, w], [(Str.ofString "k", q)]⟩ = (do let d ← alloc { cls := .type "dict", data := .dict #[] }; nsSet d (Str.ofString "k") q; pure [(Str.ofString "self", v), (Str.ofString "_name", u), (Str.ofString "_value", w), (Str.ofString "_params", .ref d)]) := by
  have : bindArgs (fd 188) ⟨[v, u, w], [(Str.ofString "k", q)]⟩ = (do let d ← alloc { cls := .type "dict", data := .dict #[] }; forIn [(Str.ofString "k", q)] PUnit.unit (fun x _ => do nsSet d x.1 x.2; pure (ForInStep.yield PUnit.unit)); pure [(Str.ofString "self", v), (Str.ofString "_name", u), (Str.ofString "_value", w), (Str.ofString "_params", .ref d)]) := by kernel_rfl
  rw [this]
  simp
theorem add_header (X : (KK C.w.params).In C.h₀) (rm : Rm 12 A) {x l : Addr} {vs : List Value} {rs : List (Str × Str)} {nm own v : Str} (T : Tb C Hc x l) (hr : Rows rs) (hn : Nm nm) (ho : clean own) (hol : own.length ≤ 10000) (hv : clean v) (hvl : v.length ≤ 100)
    (h1 : (Txt.replace v (Str.ofString "\\") (Str.ofString "\\\\")).length ≤ 1000) (h2 : (escS v).length ≤ 1000)
    (hjo : JoinOk (Str.ofString "; ") [own, paramS (Str.ofString "k") v] = true) (h : ∀ us, P .none [(l, us, hdrs (rs ++ [(nm, Txt.join (Str.ofString "; ") [own, paramS (Str.ofString "k") v])]))]) : Ca C A (.ref 188) [.raw (.ref x), .str nm, .str own] [("k", .str v)] [(l, vs, hdrs rs)] P := by
  refine ca_drop (ca_fun_pin (n := 11) rm (fn_add_header X) (bnd3p1 (x := "self") (y := "_name") (z := "_value") (t := "_params") bind_k (fun d q tk hq hd => ⟨rfl, fun L => ?_⟩) (fun _ _ _ r _ _ => by cases r; exact .str _ _)))
  have rm' := rm.deeper (fenv (fd 188) 188 L)
  have T' : Tb (C.pin [(d, dictOf [⟨PySem.hashStr C.w (Str.ofString "k"), .str (Str.ofString "k") tk, q⟩] 1)]) Hc x l := by
    obtain ⟨dx, hsh, t, n, a, b⟩ := T.get
    exact ⟨dx, hsh, t, n, List.mem_append_right _ a, List.mem_append_right _ b⟩
  refine ex_cons (ex1_assign (ev_nil_mut fun p hp => ?_) (by walk_at "CAN"))
  have hlp : l ≠ p := fun z => hp (by rw [← z]; exact List.mem_singleton_self _)
  have hv2 : v.length < 2 ^ 62 := Nat.lt_of_le_of_lt hvl (by decide)
  have ho2 : own.length < 2 ^ 62 := Nat.lt_of_le_of_lt hol (by decide)
  repeat walk_at "S"
  refine ⟨_, gm_append (List.mem_cons_self ..), kp_builtin, ?_⟩
  repeat walk_at "S"
  refine ca_append (List.mem_cons_self ..) (by decide) fun w => ?_
  rw [updS_fst hlp]
  refine ex_nil ?_
  refine ex_cons (ex1_for_items (kvs := [(Str.ofString "k", q)]) (items := [.tuple [.str (Str.ofString "k"), .str v]]) rm' rfl (List.mem_append_left _ (List.mem_singleton_self _)) (dict1_at d C.prog C.w (Str.ofString "k") tk q) ?_ ?_ rfl ?_)
  · have := hd 191 _ (X 191 _ rfl)
    exact beq_eq_false_iff_ne.mpr (Nat.ne_of_gt (Nat.lt_trans (by decide) this))
  · intro h S k y u hk
    cases k with
    | zero => cases hk; exact ⟨_, rfl, hq _ _⟩
    | succ k => cases hk
  have hkc : clean (Str.ofString "k") := by
    intro c hc
    have hc : c ∈ [107] := hc
    rw [List.mem_singleton.mp hc]
    decide
  have hkl : (Str.ofString "k").length < 2 ^ 62 := by decide
  refine asg_tuple rm'.handled rfl ?_
  repeat walk_at "S"
  refine ⟨_, gm_append (List.mem_cons_self ..), kp_builtin, ?_⟩
  repeat walk_at "S"
  refine ⟨_, gm_replace, kp_builtin, ?_⟩
  repeat walk_at "S"
  refine ca_replace_none (by decide +kernel) ?_
  repeat walk_at "S"
  refine formatparam (C := C.pin [(d, dictOf [⟨PySem.hashStr C.w (Str.ofString "k"), .str (Str.ofString "k") tk, q⟩] 1)]) (k := Str.ofString "k") X (rm'.le (by decide)) (by decide) hvl h1 h2 ?_
  repeat walk_at "S"
  refine ca_append (List.mem_cons_self ..) (Nat.le_of_ble_eq_true rfl) fun w2 => ?_
  rw [updS_fst hlp]
  repeat walk_at "S"
  refine ⟨trivial, ex_cons ?_⟩
  repeat walk_at "S"
  have hin : (l, vs, hdrs rs) ∈ [(p, [] ++ [w] ++ [w2], [] ++ [D.str own] ++ [D.str (paramS (Str.ofString "k") v)]), (l, vs, hdrs rs)] := List.mem_cons_of_mem _ (List.mem_singleton_self _)
  refine ⟨_, gm_append hin, kp_builtin, ?_⟩
  repeat walk_at "S"
  refine ca_join_store (xs := [own, paramS (Str.ofString "k") v]) (List.mem_cons_self ..) hjo ?_
  repeat walk_at "S"
  refine ca_append hin (hdrs_len hr) fun u => ?_
  rw [updS_two hlp.symm, ← hdrs_app]
  repeat walk_at "S"
  exact ⟨_, _, rfl, h _⟩
end
-- plain facts on A-P words
noncomputable def mkS (l : List Nat) : Str := ⟨l.toArray⟩
theorem mkS_app (a b : List Nat) : mkS a ++ mkS b = mkS (a ++ b) := by
  show Str.mk (a.toArray ++ b.toArray) = _
  simp [mkS]
theorem mkS_len (a : List Nat) : (mkS a).length = a.length := by simp [mkS, Str.length]
theorem mkS_of (x : Str) : mkS x.cps.toList = x := by cases x; simp [mkS]
/-- the signs of the A-P word of a number -/
noncomputable def apC (n : Nat) : List Nat := (apL n).map UInt8.toNat
theorem apC_zero : apC 0 = [] := by rw [apC, apL_zero]; rfl
theorem apC_pos {n : Nat} (h : n ≠ 0) : apC n = apC (n / 16) ++ [65 + n % 16] := by
  rw [apC, apL_pos h, List.map_append]
  have : (UInt8.ofNat (65 + n % 16)).toNat = 65 + n % 16 := by
    show (65 + n % 16) % 256 = _
    omega
  rw [List.map_cons, List.map_nil, this]; rfl
theorem apC_len (k n : Nat) (h : n < 16 ^ k) : (apC n).length ≤ k := by rw [apC, List.length_map]; exact apL_len k n h
theorem apC_range (n : Nat) : ∀ c ∈ apC n, 65 ≤ c ∧ c ≤ 80 := by
  induction n using Nat.strongRecOn with
  | ind n ih =>
    by_cases h : n = 0
    · subst h; rw [apC_zero]; simp
    · rw [apC_pos h]
      intro c hc
      rcases List.mem_append.mp hc with hc | hc
      · exact ih (n / 16) (by omega) c hc
      · simp at hc; omega
theorem apC_lt (n : Nat) : n < 16 ^ (apC n).length := by
  induction n using Nat.strongRecOn with
  | ind n ih =>
    by_cases h : n = 0
    · subst h; rw [apC_zero]; simp
    · rw [apC_pos h]
      have := ih (n / 16) (by omega)
      simp only [List.length_append, List.length_cons, List.length_nil, Nat.pow_succ]
      omega
theorem apC_ge {n : Nat} : ∀ k, k < (apC n).length → 16 ^ k ≤ n := by
  intro k hk
  rcases Nat.lt_or_ge n (16 ^ k) with h | h
  · have := apC_len k n h; omega
  · exact h
/-- the number that a word tells -/
noncomputable def unAp (l : List Nat) : Nat := l.foldl (fun a c => a * 16 + (c - 65)) 0
/-- numbers run together -/
noncomputable def joinN (row : List Nat) : Nat := row.foldl (fun j p => j * 16 ^ (apC p).length + p) 0
/-- small letters -/
noncomputable def lowC (l : List Nat) : List Nat := l.map lo1
/-- the signs of the name of a row, from a place on -/
noncomputable def nameC : Nat → List Nat → List Nat
  | _, [] => []
  | i, p :: row => (if i % 2 = 0 then apC p else lowC (apC p)) ++ nameC (i + 1) row
theorem lowC_range (l : List Nat) (h : ∀ c ∈ l, 65 ≤ c ∧ c ≤ 80) : ∀ c ∈ lowC l, 97 ≤ c ∧ c ≤ 112 := by
  intro c hc
  obtain ⟨d, hd, rfl⟩ := List.mem_map.mp hc
  have := h d hd
  simp only [lo1]
  split <;> omega
theorem lower_mkS (l : List Nat) (h : ∀ c ∈ l, c < 128) : Txt.lower (mkS l) = mkS (lowC l) := by
  rw [lower_ascii (x := mkS l) h]
  simp [mkS, lowC]
theorem clean_mkS {l : List Nat} (h : ∀ c ∈ l, 65 ≤ c ∧ c ≤ 112) : clean (mkS l) := fun c hc => by
  have := h c hc; omega
theorem nm_mkS {l : List Nat} (h : ∀ c ∈ l, 65 ≤ c ∧ c ≤ 112) (hl : l.length ≤ 10000) : Nm (mkS l) := by
  have e := lower_mkS l fun c hc => by have := h c hc; omega
  refine ⟨clean_mkS h, ?_, by rw [mkS_len]; omega, ?_⟩
  · rw [e]
    intro c hc
    obtain ⟨d, hd, rfl⟩ := List.mem_map.mp (show c ∈ lowC l from hc)
    have := h d hd
    simp only [lo1]
    split <;> omega
  · rw [e, mkS_len, lowC, List.length_map]
    exact Nat.lt_of_le_of_lt hl (by decide)
theorem join_signs (l : List Nat) : Txt.join (Str.ofString "") (l.map fun c => Str.mk #[c]) = mkS l := by
  have key : ∀ l : List Nat, Str.join (Str.ofString "") (l.map fun c => Str.mk #[c]) = mkS l := by
    intro l
    induction l with
    | nil => rfl
    | cons c l ih =>
      cases l with
      | nil => rfl
      | cons d l =>
        show Str.mk #[c] ++ Str.ofString "" ++ Str.join (Str.ofString "") ((d :: l).map fun c => Str.mk #[c]) = _
        rw [ih]
        show mkS [c] ++ mkS [] ++ mkS (d :: l) = _
        rw [mkS_app, mkS_app]; rfl
  exact (eq_of_beq (join_closes rfl)).trans (key l)
theorem joinOk_signs (l : List Nat) (h : l.length ≤ 16777216) : JoinOk (Str.ofString "") (l.map fun c => Str.mk #[c]) = true := by
  simp only [JoinOk, Bool.not_eq_true']
  have key : ∀ (l : List Nat) (a : Nat), (l.map fun c => Str.mk #[c]).foldl (fun (n : Nat) (x : Str) => n + x.length + (Str.ofString "").length) a = a + l.length := by
    intro l
    induction l with
    | nil => intro a; rfl
    | cons c l ih =>
      intro a
      rw [List.map_cons, List.foldl_cons, ih]
      show a + 1 + 0 + l.length = _
      simp; omega
  have hs : sizeLine = 16777216 := rfl
  rw [List.foldl_toArray, key]
  exact decide_eq_false (p := 0 + l.length > sizeLine) (by omega)
section
variable {C : Cx} {A : Around} {σ : Sto} {P : D → Sto → Prop}
theorem fn_law_word (X : (KK C.w.params).In C.h₀) : FnAt C 200 (fd 200) (fbody 200) := ⟨⟨_, X 200 _ rfl, rfl⟩, codeRec_of X (by rfl), rfl, rfl⟩
theorem fn_law_text (X : (KK C.w.params).In C.h₀) : FnAt C 205 (fd 205) (fbody 205) := ⟨⟨_, X 205 _ rfl, rfl⟩, codeRec_of X (by rfl), rfl, rfl⟩
theorem fn_law_line (X : (KK C.w.params).In C.h₀) : FnAt C 212 (fd 212) (fbody 212) := ⟨⟨_, X 212 _ rfl, rfl⟩, codeRec_of X (by rfl), rfl, rfl⟩
theorem fn_law_octets (X : (KK C.w.params).In C.h₀) : FnAt C 219 (fd 219) (fbody 219) := ⟨⟨_, X 219 _ rfl, rfl⟩, codeRec_of X (by rfl), rfl, rfl⟩
theorem fn_law_settled (X : (KK C.w.params).In C.h₀) : FnAt C 226 (fd 226) (fbody 226) := ⟨⟨_, X 226 _ rfl, rfl⟩, codeRec_of X (by rfl), rfl, rfl⟩
theorem fn_law (X : (KK C.w.params).In C.h₀) : FnAt C 231 (fd 231) (fbody 231) := ⟨⟨_, X 231 _ rfl, rfl⟩, codeRec_of X (by rfl), rfl, rfl⟩
theorem law_word (X : (KK C.w.params).In C.h₀) (rm : Rm 6 A) {n : Nat} (hn : n < 16 ^ 1000) (h : P (.str (mkS (apC n))) σ) : Ca C A (.ref 200) [.int n] [] σ P := by
  refine ca_fun (n := 5) rm (fn_law_word X) (bnd1 (x := "number") (fun _ => rfl) ⟨rfl, fun L => ?_⟩)
  have rm' := rm.deeper (fenv (fd 200) 200 L)
  repeat walk_at "S"
  refine int2ap X (rm'.le (by decide)) (by rw [Int.natAbs_natCast]; exact hn) ?_
  have hl := apL_len _ _ hn
  have hs : sizeLine = 16777216 := rfl
  refine ⟨_, _, itr_bytes rm'.handled, trivial, by simp [octets]; omega, fun Dd Lc => comp_go (fun d => match d with | .int i => some (.str ⟨#[i.toNat]⟩) | _ => none) _ .refl trivial ?_ ?_⟩
  · intro d hd
    obtain ⟨c, hm, rfl⟩ := List.mem_map.mp hd
    repeat walk_at "S"
    have := c.toNat_lt
    refine ca_chr (by omega) (by omega) ?_
    repeat walk_at "S"
    rfl
  · have e : (octets (apL n).toArray).filterMap (fun d => match d with | .int i => some (D.str ⟨#[i.toNat]⟩) | _ => none) = ((apC n).map fun c => Str.mk #[c]).map D.str := by
      simp only [octets, apC, List.filterMap_map, List.map_map]
      rw [← List.filterMap_eq_map]
      rfl
    show Ca _ _ _ [_, D.list ((octets (apL n).toArray).filterMap _)] _ _ _
    rw [e]
    refine ca_join (joinOk_signs _ (by rw [apC, List.length_map]; omega)) ?_
    rw [join_signs]
    exact h

end
theorem joinOk_of {sep : Str} {texts : List Str} (h : (texts.map Str.length).sum + texts.length * sep.length ≤ 16777216) : JoinOk sep texts = true := by
  simp only [JoinOk, Bool.not_eq_true']
  have key : ∀ (l : List Str) (a : Nat), l.foldl (fun (n : Nat) (x : Str) => n + x.length + sep.length) a = a + (l.map Str.length).sum + l.length * sep.length := by
    intro l
    induction l with
    | nil => intro a; simp
    | cons c l ih =>
      intro a
      rw [List.foldl_cons, ih, List.map_cons, List.sum_cons, List.length_cons, Nat.add_mul]
      omega
  have hs : sizeLine = 16777216 := rfl
  rw [List.foldl_toArray, key]
  exact decide_eq_false (p := 0 + _ + _ > sizeLine) (by omega)
theorem join_eq (sep : Str) (xs : List Str) : Txt.join sep xs = Str.join sep xs := eq_of_beq (join_closes rfl)
abbrev RC := List Nat × List Nat
noncomputable def toR (r : RC) : Str × Str := (mkS r.1, mkS r.2)
noncomputable def rowC (r : RC) : List Nat := r.1 ++ [58, 32] ++ r.2
noncomputable def crlf : List Nat := [13, 10]
noncomputable def headC (rs : List RC) : List Nat := rs.flatMap (fun r => rowC r ++ crlf) ++ crlf
structure Rows3 (rs : List RC) : Prop where
  len : rs.length ≤ 10
  nm : ∀ r ∈ rs, Nm (mkS r.1)
  nl : ∀ r ∈ rs, r.1.length ≤ 1000
  vl : ∀ r ∈ rs, r.2.length ≤ 1000
  lat : ∀ r ∈ rs, (∀ c ∈ r.1, c < 256) ∧ ∀ c ∈ r.2, c < 256
theorem Rows3.rows {rs : List RC} (h : Rows3 rs) : Rows (rs.map toR) :=
  ⟨by have := h.len; simp; omega, fun r hr => by obtain ⟨q, hq, rfl⟩ := List.mem_map.mp hr; exact h.nm q hq⟩
theorem sjoin_head (ls : List (List Nat)) : Str.join (mkS crlf) ((ls ++ [[], []]).map mkS) = mkS (ls.flatMap (· ++ crlf) ++ crlf) := by
  induction ls with
  | nil => rfl
  | cons a ls ih =>
    obtain ⟨b, ls', e⟩ : ∃ b ls', (ls ++ [[], []]).map mkS = b :: ls' := by cases ls <;> exact ⟨_, _, rfl⟩
    rw [List.cons_append, List.map_cons, e]
    show mkS a ++ mkS crlf ++ Str.join (mkS crlf) (b :: ls') = _
    rw [← e, ih, mkS_app, mkS_app, List.flatMap_cons, List.append_assoc (a ++ crlf)]
noncomputable def gRow (d : D) : Option D := match d with | .tuple [.str k, .str v] => some (.str (k ++ Str.ofString ": " ++ v)) | _ => none
theorem gRow_eq (rs : List RC) : (hdrs (rs.map toR)).filterMap gRow = (rs.map fun r => mkS (rowC r)).map D.str := by
  induction rs with
  | nil => rfl
  | cons r rs ih =>
    show (pairD (toR r) :: hdrs (rs.map toR)).filterMap gRow = _
    rw [List.filterMap_cons, show gRow (pairD (toR r)) = some (D.str (mkS r.1 ++ mkS [58, 32] ++ mkS r.2)) from rfl, ih, mkS_app, mkS_app]
    rfl
theorem rowC_len {rs : List RC} (h : Rows3 rs) : ∀ r ∈ rs, (rowC r).length ≤ 2002 := fun r hr => by
  have := h.nl r hr; have := h.vl r hr
  simp [rowC]; omega
theorem sum_le (rs : List RC) (h : ∀ r ∈ rs, (rowC r).length ≤ 2002) : ((rs.map fun r => mkS (rowC r)).map Str.length).sum ≤ 2002 * rs.length := by
  induction rs with
  | nil => simp
  | cons r rs ih =>
    have := ih fun q hq => h q (.tail _ hq)
    have := h r (.head _)
    rw [List.map_cons, List.map_cons, List.sum_cons, mkS_len, List.length_cons]
    omega
theorem headC_len (rs : List RC) (h : ∀ r ∈ rs, (rowC r).length ≤ 2002) : (headC rs).length ≤ 2004 * rs.length + 2 := by
  induction rs with
  | nil => simp [headC, crlf]
  | cons r rs ih =>
    have := ih fun q hq => h q (.tail _ hq)
    have := h r (.head _)
    simp only [headC, List.flatMap_cons, List.length_append, crlf, List.length_cons, List.length_nil] at this ⊢
    simp only [headC, crlf, List.length_append, List.length_cons, List.length_nil] at *
    omega
theorem headC_lat {rs : List RC} (h : Rows3 rs) : ∀ c ∈ headC rs, c < 256 := by
  intro c hc
  rcases List.mem_append.mp hc with hc | hc
  · obtain ⟨r, hr, hc⟩ := List.mem_flatMap.mp hc
    have hl := h.lat r hr
    rcases List.mem_append.mp hc with hc | hc
    · rcases List.mem_append.mp hc with hc | hc
      · rcases List.mem_append.mp hc with hc | hc
        · exact hl.1 c hc
        · simp at hc; omega
      · exact hl.2 c hc
    · simp [crlf] at hc; omega
  · simp [crlf] at hc; omega
section
variable {C : Cx} {A : Around} {σ : Sto} {P : D → Sto → Prop}
theorem str_ (X : (KK C.w.params).In C.h₀) (rm : Rm 4 A) {x l : Addr} {vs : List Value} {rs : List RC} (T : Tb C Hc x l) (hin : (l, vs, hdrs (rs.map toR)) ∈ σ) (hr : Rows3 rs) (h : P (.str (mkS (headC rs))) σ) :
    Ca C A (.ref 167) [.raw (.ref x)] [] σ P := by
  refine ca_fun (n := 3) rm (fn_str X) (bnd1 (x := "self") (fun _ => rfl) ⟨rfl, fun L => ?_⟩)
  have rm' := rm.deeper (fenv (fd 167) 167 L)
  have hs : sizeLine = 16777216 := rfl
  have hlen := hr.len
  repeat walk_at "S"
  refine ⟨_, _, itr_store rm'.handled hin, hin, hdrs_len hr.rows, fun Dd Lc => comp_go gRow _ .refl hin ?_ ?_⟩
  · intro d hd
    obtain ⟨_, hm, rfl⟩ := List.mem_map.mp hd
    obtain ⟨⟨k, v⟩, hm2, rfl⟩ := List.mem_map.mp hm
    have h1 := hr.nl _ hm2
    have h2 := hr.vl _ hm2
    repeat walk_at "S"
    refine op_mod_pair (fun tx ty t b => meets_colon (mkS k) (mkS v) tx ty t b (by rw [mkS_len]; exact Nat.le_trans h1 (by decide)) (by rw [mkS_len]; exact Nat.le_trans h2 (by decide))) ?_
    exact ⟨rfl, rfl⟩
  rw [gRow_eq]
  repeat walk_at "S"
  refine op_add_list (by simp; omega) ?_
  have e : ((rs.map fun r => mkS (rowC r)).map D.str) ++ [D.str (Str.ofString ""), D.str (Str.ofString "")] = ((rs.map rowC ++ [[], []]).map mkS).map D.str := by simp [mkS]; rfl
  rw [e]
  have hsum := sum_le rs (rowC_len hr)
  refine ca_join (x := mkS crlf) (joinOk_of ?_) ?_
  · rw [List.map_append, List.map_append, List.sum_append]
    simp only [List.map_map, List.length_append, List.length_map, mkS_len] at hsum ⊢
    have : ((rs.map (Str.length ∘ fun r => mkS (rowC r))).sum) = (rs.map (Str.length ∘ mkS ∘ rowC)).sum := rfl
    simp [crlf, Str.length, mkS] at *
    omega
  rw [join_eq, sjoin_head]
  have e2 : (rs.map rowC).flatMap (· ++ crlf) ++ crlf = headC rs := by rw [headC, List.flatMap_map]
  rw [e2]
  exact h
theorem bytes_ (X : (KK C.w.params).In C.h₀) (rm : Rm 8 A) {x l : Addr} {vs : List Value} {rs : List RC} (T : Tb C Hc x l) (hin : (l, vs, hdrs (rs.map toR)) ∈ σ) (hr : Rows3 rs) (h : P (.bytes ((headC rs).map Nat.toUInt8).toArray) σ) :
    Ca C A (.ref 174) [.raw (.ref x)] [] σ P := by
  refine ca_fun (n := 7) rm (fn_bytes X) (bnd1 (x := "self") (fun _ => rfl) ⟨rfl, fun L => ?_⟩)
  have rm' := rm.deeper (fenv (fd 174) 174 L)
  have hs : sizeLine = 16777216 := rfl
  have hlen := hr.len
  repeat walk_at "S"
  refine ca_str_own (rm'.le (Nat.zero_le _)) X T rfl rfl (str_ X (Rm.in1 (Rm.in1 (rm'.le (show 6 ≤ 7 by decide)))) T hin hr ⟨_, rfl, ?_⟩)
  refine ⟨_, gm_encode, kp_builtin, ?_⟩
  repeat walk_at "S"
  refine ca_encode (headC_lat hr) (by rw [mkS_len]; have := headC_len rs (rowC_len hr); omega) ?_
  exact h
end
-- a text cut at one sign
noncomputable def spl (c : Nat) : List Nat → List (List Nat)
  | [] => [[]]
  | d :: l => if d = c then [] :: spl c l else (match spl c l with | [] => [[d]] | p :: r => (d :: p) :: r)
theorem spl_ne (c : Nat) (l : List Nat) : ∃ p r, spl c l = p :: r := by
  cases l with
  | nil => exact ⟨_, _, rfl⟩
  | cons d l =>
    rw [spl]
    split
    · exact ⟨_, _, rfl⟩
    · split <;> exact ⟨_, _, rfl⟩
theorem spl_free {c : Nat} : ∀ {l : List Nat}, c ∉ l → spl c l = [l]
  | [], _ => rfl
  | d :: l, h => by
    rw [spl, if_neg (fun z => h (by rw [z]; exact List.mem_cons_self ..)), spl_free fun z => h (List.mem_cons_of_mem _ z)]
theorem spl_cut {c : Nat} {l : List Nat} : ∀ {p : List Nat}, c ∉ p → spl c (p ++ c :: l) = p :: spl c l
  | [], _ => by rw [List.nil_append, spl, if_pos rfl]
  | d :: p, h => by
    rw [List.cons_append, spl, if_neg (fun z => h (by rw [z]; exact List.mem_cons_self ..)), spl_cut fun z => h (List.mem_cons_of_mem _ z)]
theorem mkS_sub (x : Str) (a b : Nat) : Builtin.Str.strSub x a b = mkS ((x.cps.toList.drop a).take (b - a)) := by
  rw [← StrLaws.strSub_toList, mkS_of]
theorem chain_spl (x : Str) (c : Nat) : ∀ (cuts : List Nat) (a f : Nat), StrLaws.ChainG x ⟨#[c]⟩ x.length a cuts f → (∀ k, f ≤ k → ¬ StrLaws.At x ⟨#[c]⟩ x.length k) →
    StrLaws.partsFrom x 1 a cuts = (spl c (x.cps.toList.drop a)).map mkS
  | [], a, f, h, hn => by
    have e : f = a := h
    subst e
    rw [spl_free (drop_free x c f hn)]
    show [Builtin.Str.strSub x f x.length] = _
    rw [mkS_sub, List.take_of_length_le (by simp [Str.length])]
    rfl
  | d :: r, a, f, h, hn => by
    obtain ⟨had, hAt, hgap, hrest⟩ := h
    have ih := chain_spl x c r _ f hrest hn
    have hd : x.cps.toList[d]? = some c := (StrLaws.subAt_one x c d).mp hAt
    have e1 : x.cps.toList.drop a = (x.cps.toList.drop a).take (d - a) ++ (x.cps.toList.drop a).drop (d - a) := (List.take_append_drop _ _).symm
    have e2 : (x.cps.toList.drop a).drop (d - a) = x.cps.toList.drop d := by rw [List.drop_drop]; congr 1; omega
    have e3 : x.cps.toList.drop d = c :: x.cps.toList.drop (d + 1) := by
      have hlt : d < x.cps.toList.length := (List.getElem?_eq_some_iff.mp hd).1
      rw [List.drop_eq_getElem_cons hlt]
      congr 1
      exact (List.getElem?_eq_some_iff.mp hd).2
    have hfree : c ∉ (x.cps.toList.drop a).take (d - a) := by
      have := StrLaws.part_free x c a d (by have := hAt.1; omega) hgap
      rwa [StrLaws.strSub_toList] at this
    have hw : (⟨#[c]⟩ : Str).length = 1 := rfl
    rw [hw] at ih
    show Builtin.Str.strSub x a d :: StrLaws.partsFrom x 1 (d + 1) r = _
    rw [ih, mkS_sub]
    conv => rhs; rw [e1, e2, e3, spl_cut hfree, List.map_cons]
theorem parts_spl (l : List Nat) (c : Nat) : Builtin.Str.partsBetween (mkS l) (Builtin.Str.occurrences (mkS l) ⟨#[c]⟩ 0 (mkS l).length ((mkS l).length + 1)) 1 = (spl c l).map mkS := by
  obtain ⟨f, h, hn⟩ := StrLaws.occ_tight (mkS l) ⟨#[c]⟩ (Nat.le_refl 1)
  rw [StrLaws.partsBetween_eq, chain_spl (mkS l) c _ 0 f h hn]
  rfl
theorem sjoin_spl (z : List Nat) (c : Nat) (l : List Nat) : Str.join (mkS z) ((spl c l).map mkS) = mkS (l.flatMap fun d => if d = c then z else [d]) := by
  induction l with
  | nil => rfl
  | cons d l ih =>
    obtain ⟨p, r, e⟩ := spl_ne c l
    rw [List.flatMap_cons, spl]
    split
    · rw [e] at ih ⊢
      show mkS [] ++ mkS z ++ Str.join (mkS z) ((p :: r).map mkS) = _
      rw [ih, mkS_app, mkS_app]; rfl
    · rw [e] at ih ⊢
      show Str.join (mkS z) (mkS (d :: p) :: r.map mkS) = mkS ([d] ++ _)
      rw [← mkS_app, ← ih]
      cases r with
      | nil => show mkS (d :: p) = mkS [d] ++ mkS p; rw [mkS_app]; rfl
      | cons q r =>
        show mkS (d :: p) ++ mkS z ++ _ = mkS [d] ++ (mkS p ++ mkS z ++ _)
        rw [show mkS (d :: p) = mkS [d] ++ mkS p from by rw [mkS_app]; rfl]
        show Str.mk _ = Str.mk _
        simp only [Str.mk.injEq]
        show (mkS [d] ++ mkS p ++ mkS z ++ Str.join (mkS z) (List.map mkS (q :: r))).cps = _
        exact congrArg Str.cps (show (mkS [d] ++ mkS p ++ mkS z ++ Str.join (mkS z) (List.map mkS (q :: r))) = mkS [d] ++ (mkS p ++ mkS z ++ Str.join (mkS z) (List.map mkS (q :: r))) from by
          have as : ∀ a b c : Str, a ++ b ++ c = a ++ (b ++ c) := fun a b c => by show Str.mk (a.cps ++ b.cps ++ c.cps) = Str.mk (a.cps ++ (b.cps ++ c.cps)); rw [Array.append_assoc]
          rw [as, as, as])
theorem replace_spl (l z : List Nat) (c : Nat) : Txt.replace (mkS l) ⟨#[c]⟩ (mkS z) = mkS (l.flatMap fun d => if d = c then z else [d]) := by
  have hp := parts_spl l c
  have hj := sjoin_spl z c l
  unfold Txt.replace
  split
  · rename_i hq
    have hq : (Builtin.Str.occurrences (mkS l) ⟨#[c]⟩ 0 (mkS l).length ((mkS l).length + 1)) = [] := by
      have : ((⟨#[c]⟩ : Str).length == 0) = false := rfl
      simpa [this] using hq
    have h1 : spl c l = [l] := by
      have : Builtin.Str.partsBetween (mkS l) [] 1 = (spl c l).map mkS := by rw [← hp]; rw [hq]
      obtain ⟨p, r, e⟩ := spl_ne c l
      rw [e] at this
      have h2 : [Builtin.Str.strSub (mkS l) 0 (mkS l).length] = mkS p :: r.map mkS := this
      rw [StrLaws.sub_whole] at h2
      injection h2 with h3 h4
      have h5 : r = [] := by cases r; rfl; cases h4
      have h6 : l = p := by have := congrArg (fun s : Str => s.cps.toList) h3; simpa [mkS] using this
      rw [e, h5, ← h6]
    rw [h1] at hj
    exact hj
  · show Builtin.Str.glued (mkS z) _ = _
    rw [StrLaws.glued_eq_join]
    show Str.join (mkS z) (Builtin.Str.partsBetween _ _ 1) = _
    rw [hp, hj]

-- plain facts of law 03
noncomputable def sgnL : List Nat := [34, 92, 59, 61, 32, 233]
noncomputable def sgn (i : Nat) : Nat := sgnL.getD i 32
noncomputable def textC (n : Int) (size : Nat) : List Nat := (List.range size).map fun p => sgn ((n / 6 ^ p % 6).toNat)
noncomputable def escC (v : List Nat) : List Nat := v.flatMap fun c => if c = 34 ∨ c = 92 then [92, c] else [c]
noncomputable def paramC (v : List Nat) : List Nat := [107] ++ (if v = [] then [] else [61, 34] ++ escC v ++ [34])
noncomputable def lineC (nm own v : List Nat) : List Nat := nm ++ [58, 32] ++ own ++ [59, 32, 107] ++ (if v = [] then [] else [61, 34] ++ escC v ++ [34])
noncomputable def mkRow (nm own v : List Nat) : RC := (nm, own ++ [59, 32] ++ paramC v)
theorem rowC_mkRow (nm own v : List Nat) : rowC (mkRow nm own v) = lineC nm own v := by
  simp [rowC, mkRow, lineC, paramC]
theorem sgn_mem (i : Nat) : sgn i ∈ sgnL := by
  unfold sgn
  by_cases h : i < 6
  · have : ∀ i, i < 6 → sgnL.getD i 32 ∈ sgnL := by decide
    exact this i h
  · rw [List.getD_eq_getElem?_getD, List.getElem?_eq_none (by show 6 ≤ i; omega)]; decide
/-- texts of at most three of the signs -/
noncomputable def Tx (v : List Nat) : Prop := v.length ≤ 3 ∧ ∀ c ∈ v, c ∈ sgnL
theorem tx_text (n : Int) {size : Nat} (h : size ≤ 3) : Tx (textC n size) :=
  ⟨by simpa [textC] using h, fun c hc => by obtain ⟨p, _, rfl⟩ := List.mem_map.mp hc; exact sgn_mem _⟩
theorem rep1 (v : List Nat) : Txt.replace (mkS v) (Str.ofString "\\") (Str.ofString "\\\\") = mkS (v.flatMap fun c => if c = 92 then [92, 92] else [c]) := replace_spl v [92, 92] 92
theorem esc_flat (v : List Nat) : ((v.flatMap fun c => if c = 92 then [92, 92] else [c]).flatMap fun c => if c = 34 then [92, 34] else [c]) = escC v := by
  rw [escC, List.flatMap_assoc]
  congr 1
  funext c
  by_cases h : c = 92
  · subst h; rfl
  · rw [if_neg h]
    by_cases h2 : c = 34
    · subst h2; rfl
    · simp [h, h2]
theorem esc_len : ∀ {v : List Nat}, (escC v).length ≤ 2 * v.length ∧ (v.flatMap fun c => if c = 92 then [92, 92] else [c]).length ≤ 2 * v.length
  | [] => by simp [escC]
  | c :: v => by
    have ih := esc_len (v := v)
    simp only [escC, List.flatMap_cons, List.length_append, List.length_cons] at ih ⊢
    constructor <;> split <;> simp only [List.length_cons, List.length_nil] <;> omega
theorem esc_eq {v : List Nat} (h : Tx v) : escS (mkS v) = mkS (escC v) ∧ (Txt.replace (mkS v) (Str.ofString "\\") (Str.ofString "\\\\")).length ≤ 1000 ∧ (escC v).length ≤ 6 := by
  have hl := h.1
  have he := esc_len (v := v)
  refine ⟨?_, by rw [rep1, mkS_len]; omega, by omega⟩
  rw [escS, rep1]
  exact (replace_spl _ [92, 34] 34).trans (congrArg mkS (esc_flat v))
theorem param_eq {v : List Nat} (h : Tx v) : paramS (Str.ofString "k") (mkS v) = mkS (paramC v) := by
  rw [paramS, mkS_len, (esc_eq h).1, paramC]
  by_cases hv : v = []
  · subst hv; rfl
  · rw [if_neg (by simpa using hv), if_neg hv]
    show mkS [107] ++ mkS [61, 34] ++ mkS (escC v) ++ mkS [34] = _
    simp only [mkS_app, List.append_assoc]
theorem join2_eq {own v : List Nat} (h : Tx v) : Txt.join (Str.ofString "; ") [mkS own, paramS (Str.ofString "k") (mkS v)] = mkS (own ++ [59, 32] ++ paramC v) := by
  rw [join_eq, param_eq h]
  show mkS own ++ mkS [59, 32] ++ mkS (paramC v) = _
  rw [mkS_app, mkS_app]
theorem esc_mem {v : List Nat} (h : Tx v) : ∀ c ∈ escC v, c ∈ sgnL := by
  intro c hc
  obtain ⟨d, hd, hc⟩ := List.mem_flatMap.mp hc
  split at hc
  · rename_i q
    simp at hc
    rcases hc with rfl | rfl
    · decide
    · exact h.2 _ hd
  · simp at hc; subst hc; exact h.2 _ hd
theorem sgnL_ok : ∀ c ∈ sgnL, (32 ≤ c ∧ c ≠ 127) ∧ c < 256 := by decide
theorem paramC_len {v : List Nat} (h : Tx v) : (paramC v).length ≤ 10 := by
  have := (esc_eq h).2.2
  unfold paramC
  split
  · simp
  · simp; omega
theorem paramC_lat {v : List Nat} (h : Tx v) : ∀ c ∈ paramC v, c < 256 := by
  intro c hc
  unfold paramC at hc
  split at hc
  · simp at hc; omega
  · simp only [List.mem_append, List.mem_cons, List.not_mem_nil, or_false] at hc
    rcases hc with rfl | ((rfl | rfl) | hc) | rfl
    · decide
    · decide
    · decide
    · exact (sgnL_ok c (esc_mem h c hc)).2
    · decide
theorem contains_sign : ∀ c ∈ sgnL, Txt.contains (Str.ofString "\"\\") ⟨#[c]⟩ = decide (c = 34 ∨ c = 92) := by decide +kernel
theorem rep_fold (n : Nat) : ∀ acc : Array Nat, (List.replicate n #[120]).foldl (· ++ ·) acc = acc ++ (List.replicate n 120).toArray := by
  induction n with
  | zero => intro acc; simp
  | succ n ih => intro acc; rw [List.replicate_succ, List.foldl_cons, ih, List.replicate_succ, Array.append_assoc]; congr 1; exact (List.append_toArray [120] (List.replicate n 120))
theorem mul_x (n : Nat) : Txt.mul (Str.ofString "x") (n : Nat) = mkS (List.replicate n 120) := by
  unfold Txt.mul
  by_cases h0 : n = 0
  · subst h0; rfl
  by_cases h1 : n = 1
  · subst h1; rfl
  rw [if_neg (by omega), if_neg]
  · show Str.mk ((List.replicate ((n : Int)).toNat #[120]).foldl (· ++ ·) #[]) = _
    rw [rep_fold, Int.toNat_natCast]; simp [mkS]
  · have : ((Str.ofString "x").length == 0) = false := rfl
    rw [this]
    simp; omega
theorem mulOk_x : ∀ n, n < 80 → MulOk (Str.ofString "x") (n : Nat) := by unfold MulOk; decide +kernel
-- the size that tells itself
noncomputable def fig (n : Nat) : Nat := if n = 0 then 0 else if n < 16 then 1 else if n < 256 then 2 else if n < 4096 then 3 else if n < 65536 then 4 else 5
theorem fig_eq {n : Nat} (h : n < 1048576) : (apC n).length = fig n := by
  have lt := apC_lt n
  have ge : ∀ k, k < (apC n).length → 16 ^ k ≤ n := fun k hk => apC_ge k hk
  have le := apC_len 5 n h
  generalize (apC n).length = m at lt ge le
  have hm : m = 0 ∨ m = 1 ∨ m = 2 ∨ m = 3 ∨ m = 4 ∨ m = 5 := by omega
  rcases hm with rfl | rfl | rfl | rfl | rfl | rfl
  · simp at lt; simp [fig, lt]
  · have := ge 0 (by decide); simp at lt this; unfold fig; rw [if_neg (by omega), if_pos lt]
  · have := ge 1 (by decide); simp at lt this; unfold fig; rw [if_neg (by omega), if_neg (by omega), if_pos lt]
  · have := ge 2 (by decide); simp at lt this; unfold fig; rw [if_neg (by omega), if_neg (by omega), if_neg (by omega), if_pos lt]
  · have := ge 3 (by decide); simp at lt this; unfold fig; rw [if_neg (by omega), if_neg (by omega), if_neg (by omega), if_neg (by omega), if_pos lt]
  · have := ge 4 (by decide); simp at lt this; unfold fig; rw [if_neg (by omega), if_neg (by omega), if_neg (by omega), if_neg (by omega), if_neg (by omega)]
noncomputable def settle (B : Nat) : Nat → Nat → Option Nat
  | 0, _ => none
  | k + 1, n => if B + fig n = n then some n else settle B k (B + fig n)
noncomputable def figs (B : Nat) : Nat := if B + 1 < 16 then 1 else if B + 2 < 256 then 2 else 3
noncomputable def dueL (B : Nat) : List Nat := [B + figs B] ++ (if B + figs B + 1 = 16 ^ figs B then [16 ^ figs B] else [])
noncomputable def lastD (B : Nat) : Nat := if B + figs B + 1 = 16 ^ figs B then 16 ^ figs B else B + figs B
theorem due_filter : ∀ B, B < 528 → 7 ≤ B → ([B, B + 1, B + 2, B + 3, B + 4, B + 5].filter fun n => B + fig n == n) = dueL B := by decide +kernel
theorem settle_high : ∀ B, B < 528 → settle B 4 65536 = some (lastD B) := by decide +kernel
theorem settle_low' : ∀ B, B < 528 → 7 ≤ B → ∀ k, k < 4 → k ≤ fig B → settle B 3 (B + k) = some (B + figs B) := by decide +kernel
theorem fig_le {m n : Nat} (h : m ≤ n) : fig m ≤ fig n := by
  unfold fig; repeat' split
  all_goals omega
theorem fig_pos {n : Nat} (h : n ≠ 0) : 0 < fig n := by
  unfold fig; repeat' split
  all_goals omega
theorem fig_le3 {n : Nat} (h : n < 528) : fig n ≤ 3 := by
  unfold fig; repeat' split
  all_goals omega
theorem settle_low {B m : Nat} (h : B < 528) (h0 : 7 ≤ B) (hm : m ≤ B) : settle B 4 m = some (B + figs B) := by
  have h1 := fig_le hm
  have h2 := fig_le3 h
  rw [settle, if_neg ?_]
  · exact settle_low' B h h0 _ (by omega) h1
  · intro z
    have : fig m = 0 := by omega
    by_cases hz : m = 0
    · omega
    · have := fig_pos hz; omega
theorem figs_step {B f : Nat} (hB : B < 528) (h1 : 1 ≤ f) (h2 : f ≤ figs B) : (16 ^ f ≤ B + f → f < figs B) ∧ (¬ 16 ^ f ≤ B + f → f = figs B) := by
  have hf : figs B ≤ 3 := by unfold figs; repeat' split
                             all_goals omega
  have : f = 1 ∨ f = 2 ∨ f = 3 := by omega
  unfold figs at *
  rcases this with rfl | rfl | rfl <;> simp only [show (16 : Nat) ^ 1 = 16 from rfl, show (16 : Nat) ^ 2 = 256 from rfl, show (16 : Nat) ^ 3 = 4096 from rfl] <;> (repeat' split at h2) <;> constructor <;> intro z <;> (repeat' split) <;> omega
theorem figs_le (B : Nat) : 1 ≤ figs B ∧ figs B ≤ 3 := by unfold figs; repeat' split
                                                          all_goals omega
-- the rows
structure H3 (r : RC) : Prop where
  nm : ∃ p, p < 5 ∧ r.1 = apC p
  vl : r.2.length ≤ 95
  lat : ∀ c ∈ r.2, c < 256
structure Hs (hs : List RC) : Prop where
  len : hs.length ≤ 5
  all : ∀ r ∈ hs, H3 r
noncomputable def sS : Str := mkS [115]
theorem not_s {r : RC} (h : H3 r) : lowEq (toR r).1 sS = false := by
  obtain ⟨p, _, e⟩ := h.nm
  show lowEq (mkS r.1) sS = false
  rw [e, lowEq, lower_mkS _ fun c hc => by have := apC_range p c hc; omega]
  rw [show (Txt.lower sS) = mkS [115] from by rw [sS, lower_mkS _ (by decide)]; rfl]
  show (lowC (apC p) == [115]) = false
  rw [beq_eq_false_iff_ne]
  intro z
  have := lowC_range (apC p) (apC_range p) 115 (by rw [z]; simp)
  omega
theorem nm_word {p : Nat} (h : p < 1048576) : Nm (mkS (apC p)) := nm_mkS (fun c hc => by have := apC_range _ c hc; omega) (by have := apC_len 5 p h; omega)
theorem nm_s : Nm sS := by
  have e : Txt.lower sS = mkS [115] := by rw [sS, lower_mkS _ (by decide)]; rfl
  have hc : clean (mkS [115]) := by intro c hc; simp [mkS] at hc; omega
  exact ⟨hc, by rw [e]; exact hc, by decide, by rw [e]; decide⟩
theorem Hs.rows3 {hs : List RC} (h : Hs hs) : Rows3 hs where
  len := by have := h.len; omega
  nm r hr := by obtain ⟨p, hp, e⟩ := (h.all r hr).nm; rw [e]; exact nm_word (by omega)
  nl r hr := by obtain ⟨p, hp, e⟩ := (h.all r hr).nm; rw [e]; have := apC_len 5 p (by omega); omega
  vl r hr := by have := (h.all r hr).vl; omega
  lat r hr := ⟨by obtain ⟨p, hp, e⟩ := (h.all r hr).nm; rw [e]; exact fun c hc => by have := apC_range _ c hc; omega, (h.all r hr).lat⟩
noncomputable def sRow (hs : List RC) (n : Nat) : List RC := hs ++ [([115], apC n)]
theorem sRow_rows3 {hs : List RC} (h : Hs hs) {n : Nat} (hn : n < 1048576) : Rows3 (sRow hs n) := by
  have hl := h.len
  have hr := h.rows3
  refine ⟨by simp [sRow]; omega, ?_, ?_, ?_, ?_⟩ <;> intro r hm <;> rcases List.mem_append.mp hm with hm | hm
  · exact hr.nm r hm
  · rw [List.mem_singleton.mp hm]; exact nm_s
  · exact hr.nl r hm
  · rw [List.mem_singleton.mp hm]; show 1 ≤ 1000; decide
  · exact hr.vl r hm
  · rw [List.mem_singleton.mp hm]; have := apC_len 5 n hn; show (apC n).length ≤ 1000; omega
  · exact hr.lat r hm
  · rw [List.mem_singleton.mp hm]; exact ⟨fun c hc => by simp at hc; omega, fun c hc => by have := apC_range n c hc; omega⟩
noncomputable def ns : Str × Str → Bool := fun r => !lowEq r.1 sS
structure Tab (hs : List RC) (R : List (Str × Str)) : Prop where
  rows : Rows R
  flt : R.filter ns = hs.map toR
theorem flt_hs {hs : List RC} (h : Hs hs) : (hs.map toR).filter ns = hs.map toR := by
  rw [List.filter_eq_self]
  intro r hr
  obtain ⟨q, hq, rfl⟩ := List.mem_map.mp hr
  show (!lowEq (toR q).1 sS) = true
  rw [not_s (h.all q hq)]; rfl
theorem lowEq_self (x : Str) : lowEq x x = true := by simp [lowEq]
theorem tab_sRow {hs : List RC} (h : Hs hs) {n : Nat} (hn : n < 1048576) : Tab hs ((sRow hs n).map toR) := by
  refine ⟨(sRow_rows3 h hn).rows, ?_⟩
  rw [sRow, List.map_append, List.filter_append, flt_hs h]
  have : ns (toR ([115], apC n)) = false := by show (!lowEq sS sS) = false; rw [lowEq_self]; rfl
  simp [this]
theorem tab_add {hs : List RC} {R : List (Str × Str)} (t : Tab hs R) {r : RC} (hr : H3 r) (hl : R.length ≤ 10) : Tab (hs ++ [r]) (R ++ [toR r]) := by
  refine ⟨⟨by simp; omega, ?_⟩, ?_⟩
  · intro q hq
    rcases List.mem_append.mp hq with hq | hq
    · exact t.rows.nm q hq
    · rw [List.mem_singleton.mp hq]
      obtain ⟨p, hp, e⟩ := hr.nm
      show Nm (mkS r.1)
      rw [e]; exact nm_word (by omega)
  · rw [List.filter_append, t.flt, List.map_append]
    have : ns (toR r) = true := by show (!lowEq (toR r).1 sS) = true; rw [not_s hr]; rfl
    simp [this]
noncomputable def baseN (hs : List RC) : Nat := (hs.flatMap fun r => rowC r ++ crlf).length + 7
theorem headC_sRow (hs : List RC) (n : Nat) : headC (sRow hs n) = (hs.flatMap fun r => rowC r ++ crlf) ++ ([115, 58, 32] ++ apC n ++ [13, 10, 13, 10]) := by
  rw [headC, sRow, List.flatMap_append]
  simp [rowC, crlf]
theorem octets_len (hs : List RC) {n : Nat} (hn : n < 1048576) : (headC (sRow hs n)).length = baseN hs + fig n := by
  rw [headC_sRow, ← fig_eq hn, baseN]
  simp; omega
theorem baseN_app (hs : List RC) (r : RC) : baseN (hs ++ [r]) = baseN hs + (rowC r).length + 2 := by
  simp [baseN, crlf]; omega
theorem row_len {r : RC} (h : H3 r) : 2 ≤ (rowC r).length ∧ (rowC r).length ≤ 102 := by
  obtain ⟨p, hp, e⟩ := h.nm
  have := h.vl
  have := apC_len 5 p (by omega)
  simp [rowC, e]; omega
theorem baseN_le {hs : List RC} (h : ∀ r ∈ hs, H3 r) : baseN hs ≤ 104 * hs.length + 7 := by
  have : (hs.flatMap fun r => rowC r ++ crlf).length ≤ 104 * hs.length := by
    induction hs with
    | nil => simp
    | cons r hs ih =>
      have := ih fun q hq => h q (.tail _ hq)
      have := (row_len (h r (.head _))).2
      simp only [List.flatMap_cons, List.length_append, crlf, List.length_cons, List.length_nil] at *
      omega
  unfold baseN; omega
theorem base_sum (hs : List RC) : ((7 : Int) + ((hs.map fun r => ((rowC r).length : Int) + 2).sum)) = (baseN hs : Int) := by
  have : ((hs.map fun r => ((rowC r).length : Int) + 2).sum) = ((hs.flatMap fun r => rowC r ++ crlf).length : Int) := by
    induction hs with
    | nil => rfl
    | cons r hs ih =>
      rw [List.map_cons, List.sum_cons, ih, List.flatMap_cons]
      simp [crlf]; omega
  rw [this, baseN]; omega
theorem rangeItems_nat (n : Nat) : rangeItems 0 1 n = (List.range' 0 n).map fun (i : Nat) => D.int i := by
  simp [rangeItems, List.range_eq_range']
section
variable {C : Cx} {A : Around} {σ : Sto} {P : D → Sto → Prop}
theorem itr_upto (hh : A.handled = none) (n : Nat) (hn : n < 2 ^ 62) : Itr C A (.range 0 n 1) σ none ((List.range' 0 n).map fun (i : Nat) => D.int i) := by
  rw [← rangeItems_nat]
  exact itr_range hh (small_one (by decide) (by decide) (by omega) (by omega)) (by rw [rangeSize_nat]; simp)
noncomputable def gText (n : Int) (d : D) : Option D := match d with | .int p => some (.str ⟨#[sgn ((n / 6 ^ p.toNat % 6).toNat)]⟩) | _ => none
theorem gText_eq (n : Int) (size : Nat) : ((List.range' 0 size).map fun (i : Nat) => D.int i).filterMap (gText n) = ((textC n size).map fun c => Str.mk #[c]).map D.str := by
  rw [List.filterMap_map, textC, List.map_map, List.map_map, ← List.filterMap_eq_map, List.range_eq_range']
  rfl
theorem law_text (X : (KK C.w.params).In C.h₀) (rm : Rm 4 A) {n : Int} {size : Nat} (hs : size ≤ 3) (h : P (.str (mkS (textC n size))) σ) : Ca C A (.ref 205) [.int n, .int size] [] σ P := by
  refine ca_fun (n := 3) rm (fn_law_text X) (bnd2 (x := "number") (y := "size") (fun _ _ => rfl) ⟨rfl, fun L => ?_⟩)
  have rm' := rm.deeper (fenv (fd 205) 205 L)
  have hz : sizeLine = 16777216 := rfl
  repeat walk_at "S"
  refine ca_chr (by decide) (by decide) ?_
  refine op_add_str (by decide) ?_
  repeat walk_at "S"
  refine ⟨_, _, itr_upto rm'.handled size (by omega), trivial, by simp; omega, fun Dd Lc => comp_go (gText n) [("number", .int n), ("signs", .str (mkS sgnL))] ?_ trivial ?_ ?_⟩
  · walk_at "SUB"
  · intro d hd
    obtain ⟨p, hp, rfl⟩ := List.mem_map.mp hd
    have hp3 : p < 3 := by have := List.mem_range'_1.mp hp; omega
    have hp6 : (6 : Int) ^ p = 1 ∨ (6 : Int) ^ p = 6 ∨ (6 : Int) ^ p = 36 := by
      have : p = 0 ∨ p = 1 ∨ p = 2 := by omega
      rcases this with rfl | rfl | rfl <;> simp
    repeat walk_at "S"
    refine op_pow_int (by omega) ?_ ?_
    · have : Builtin.Int.intBits 6 ≤ 3 := intBits_le (by decide)
      have h1 : ((Builtin.Int.intBits 6 : Nat) : Int) * (p : Int) ≤ 3 * 3 := Int.mul_le_mul (by omega) (by omega) (by omega) (by omega)
      exact Int.le_trans h1 (by decide)
    rw [Int.toNat_natCast]
    refine op_fdiv_int (by omega) (by omega) ?_
    repeat walk_at "S"
    have e : n / 6 ^ p % 6 = ((n / 6 ^ p % 6).toNat : Int) := by omega
    have hlt : (n / 6 ^ p % 6).toNat < 6 := by omega
    rw [e]
    refine op_item_str (c := sgn ((n / 6 ^ p % 6).toNat)) (by omega) ?_ ⟨rfl, rfl⟩
    generalize (n / 6 ^ p % 6).toNat = i at hlt
    have : ∀ i, i < 6 → (mkS sgnL).cps[i]? = some (sgn i) := by decide
    exact this i hlt
  rw [gText_eq]
  refine ca_join (joinOk_signs _ (by simp [textC]; omega)) ?_
  rw [join_signs]
  exact h
theorem law_line (X : (KK C.w.params).In C.h₀) (rm : Rm 4 A) {nm own v : List Nat} (hn : nm.length ≤ 100) (ho : own.length ≤ 100) (hv : Tx v) (h : P (.str (mkS (lineC nm own v))) σ) : Ca C A (.ref 212) [.str (mkS nm), .str (mkS own), .str (mkS v)] [] σ P := by
  refine ca_fun (n := 3) rm (fn_law_line X) (bnd3 (x := "name") (y := "own") (z := "value") (fun _ _ _ => rfl) ⟨rfl, fun L => ?_⟩)
  have rm' := rm.deeper (fenv (fd 212) 212 L)
  have hz : sizeLine = 16777216 := rfl
  have hvl := hv.1
  repeat walk_at "S"
  refine op_add_str (y := mkS [58, 32]) (by rw [mkS_len, mkS_len]; show nm.length + 2 ≤ _; omega) ?_
  rw [mkS_app]
  repeat walk_at "S"
  refine op_add_str (by rw [mkS_len, mkS_len]; simp; omega) ?_
  rw [mkS_app]
  repeat walk_at "S"
  refine op_add_str (y := mkS [59, 32, 107]) (by rw [mkS_len, mkS_len]; simp; omega) ?_
  rw [mkS_app]
  repeat walk_at "S"
  split
  · rename_i hq
    have hq : v = [] := eq_of_beq (show (v == []) = true from hq)
    repeat walk_at "S"
    rw [lineC, if_pos hq, List.append_nil] at h
    exact h
  · rename_i hq
    have hq : ¬ v = [] := fun z => hq (by subst z; rfl)
    repeat walk_at "S"
    refine op_add_str (y := mkS [61, 34]) (by rw [mkS_len, mkS_len]; simp; omega) ?_
    rw [mkS_app]
    repeat walk_at "S"
    refine ⟨_, _, itr_str rm'.handled, trivial, fun ds ρ σ' => σ = σ' ∧ ∃ (rest ln : List Nat), ds = rest.map (fun c => D.str ⟨#[c]⟩) ∧ (∀ c ∈ rest, c ∈ sgnL) ∧ ln.length + 2 * rest.length ≤ 400 ∧ ln ++ escC rest = nm ++ [58, 32] ++ own ++ [59, 32, 107] ++ [61, 34] ++ escC v ∧
      ρ = ([("line", .str (mkS ln))] : Rho), ([("line", .str (mkS (nm ++ [58, 32] ++ own ++ [59, 32, 107] ++ [61, 34])))] : Rho), SubL.sub ⟨rfl, trivial⟩, ⟨rfl, v, _, by simp [signs, mkS], hv.2, by simp; omega, rfl, rfl⟩, ?_, ?_⟩
    · rintro ρ _ ⟨rfl, rest, ln, e, _, hl, hf, rfl⟩
      have : rest = [] := by cases rest <;> simp_all
      subst this
      repeat walk_at "S"
      refine op_add_str (y := mkS [34]) (by rw [mkS_len, mkS_len]; simp at *; omega) ?_
      rw [mkS_app]
      rw [lineC, if_neg hq] at h
      have : ln = nm ++ [58, 32] ++ own ++ [59, 32, 107] ++ [61, 34] ++ escC v := by simpa [escC] using hf
      rw [this]
      simpa [List.append_assoc] using h
    · rintro d ds ρ _ ⟨rfl, rest, ln, e, hm, hl, hf, rfl⟩
      cases rest with
      | nil => cases e
      | cons c rest =>
        cases e
        have hcc := hm c (.head _)
        simp only [List.length_cons] at hl
        have hf2 : ln ++ ((if c = 34 ∨ c = 92 then [92, c] else [c]) ++ escC rest) = nm ++ [58, 32] ++ own ++ [59, 32, 107] ++ [61, 34] ++ escC v := hf
        repeat walk_at "S"
        refine op_in_str ⟨_, rfl, ?_⟩
        rw [show Txt.contains _ _ = decide (c = 34 ∨ c = 92) from contains_sign c hcc]
        by_cases hc : c = 34 ∨ c = 92
        · rw [decide_eq_true hc]
          rw [if_pos hc] at hf2
          repeat walk_at "S"
          refine op_add_str (x := mkS [92]) (y := mkS [c]) (by rw [mkS_len, mkS_len]; simp; omega) ?_
          rw [mkS_app]
          refine op_add_str (by rw [mkS_len, mkS_len]; simp; omega) ?_
          rw [mkS_app]
          repeat walk_at "S"
          refine ⟨trivial, _, ?_, rfl, rest, ln ++ [92, c], rfl, fun q hq => hm q (.tail _ hq), by simp; omega, by rw [← hf2, List.append_assoc], rfl⟩
          walk_at "SUB"
        · rw [decide_eq_false hc]
          rw [if_neg hc] at hf2
          repeat walk_at "S"
          refine op_add_str (y := mkS [c]) (by rw [mkS_len, mkS_len]; simp; omega) ?_
          rw [mkS_app]
          repeat walk_at "S"
          refine ⟨trivial, _, ?_, rfl, rest, ln ++ [c], rfl, fun q hq => hm q (.tail _ hq), by simp; omega, by rw [← hf2, List.append_assoc], rfl⟩
          walk_at "SUB"
theorem law_octets (X : (KK C.w.params).In C.h₀) (rm : Rm 14 A) {x l : Addr} {vs : List Value} {hs : List RC} {R : List (Str × Str)} {n : Nat} (T : Tb C Hc x l) (hh : Hs hs) (hR : Tab hs R) (hn : n < 1048576)
    (h : ∀ us, P (.int ((baseN hs + fig n : Nat) : Int)) [(l, us, hdrs ((sRow hs n).map toR))]) : Ca C A (.ref 219) [.raw (.ref x), .int n] [] [(l, vs, hdrs R)] P := by
  refine ca_fun (n := 13) rm (fn_law_octets X) (bnd2 (x := "table") (y := "number") (fun _ _ => rfl) ⟨rfl, fun L => ?_⟩)
  have rm' := rm.deeper (fenv (fd 219) 219 L)
  have hz : sizeLine = 16777216 := rfl
  have hwl := apC_len 5 n hn
  refine ex_cons (ex1_assign_t ?_)
  repeat walk_at "S"
  refine law_word X (rm'.le (by decide)) (Nat.lt_of_lt_of_le hn (by decide)) ?_
  refine asg_setitem X T rfl rfl rfl ?_
  repeat walk_at "S"
  refine setitem (nm := sS) X (rm'.le (by decide)) T hR.rows nm_s (clean_mkS fun c hc => by have := apC_range n c hc; omega) (by rw [mkS_len]; omega) fun us => ?_
  rw [show (R.filter fun r => !lowEq r.1 sS) = hs.map toR from hR.flt]
  rw [show hs.map toR ++ [(sS, mkS (apC n))] = (sRow hs n).map toR from by simp [sRow, toR, sS]]
  have hr3 := sRow_rows3 hh hn
  have hin : (l, us, hdrs ((sRow hs n).map toR)) ∈ [(l, us, hdrs ((sRow hs n).map toR))] := List.mem_singleton_self _
  repeat walk_at "S"
  refine ca_bytes_own X T rfl rfl (bytes_ X (Rm.in1 (Rm.in1 (rm'.le (show 10 ≤ 13 by decide)))) T hin hr3 ⟨_, rfl, ?_⟩)
  repeat walk_at "S"
  have hhl := headC_len _ (rowC_len hr3)
  have h3l := hr3.len
  refine ca_len_bytes (by simp; omega) ?_
  have e : ((headC (sRow hs n)).map Nat.toUInt8).toArray.size = baseN hs + fig n := by rw [← octets_len hs hn]; simp
  rw [e]
  exact h us
theorem law_settled (X : (KK C.w.params).In C.h₀) (rm : Rm 16 A) {x l : Addr} {vs : List Value} {hs : List RC} {R : List (Str × Str)} {n r : Nat} (T : Tb C Hc x l) (hh : Hs hs) (hR : Tab hs R) (hn : n < 1048576) (hb : baseN hs < 528)
    (hset : settle (baseN hs) 4 n = some r) (h : ∀ us, P (.int r) [(l, us, hdrs ((sRow hs r).map toR))]) : Ca C A (.ref 226) [.raw (.ref x), .int n] [] [(l, vs, hdrs R)] P := by
  refine ca_fun (n := 15) rm (fn_law_settled X) (bnd2 (x := "table") (y := "number") (fun _ _ => rfl) ⟨rfl, fun L => ?_⟩)
  have rm' := rm.deeper (fenv (fd 226) 226 L)
  repeat walk_at "S"
  refine ⟨_, _, itr_upto rm'.handled 4 (by decide), trivial, fun ds ρ σ' => ∃ (m : Nat) (us : List Value) (R' : List (Str × Str)), σ' = [(l, us, hdrs R')] ∧ Tab hs R' ∧ m < 1048576 ∧ settle (baseN hs) ds.length m = some r ∧ ρ = ([("table", .raw (.ref x)), ("number", .int m)] : Rho), _, .refl, ⟨n, vs, R, rfl, hR, hn, hset, rfl⟩, ?_, ?_⟩
  · rintro ρ _ ⟨m, us, R', rfl, _, _, hq, rfl⟩
    cases hq
  · rintro d ds ρ _ ⟨m, us, R', rfl, hR', hm, hq, rfl⟩
    rw [List.length_cons, settle] at hq
    repeat walk_at "S"
    refine law_octets X (rm'.le (by decide)) T hh hR' hm fun us' => ?_
    repeat walk_at "S"
    split
    · rename_i e
      have e : baseN hs + fig m = m := by have := eq_of_beq e; omega
      rw [if_pos e] at hq
      cases hq
      repeat walk_at "S"
      exact h us'
    · rename_i e
      have e : ¬ baseN hs + fig m = m := fun z => e (beq_iff_eq.mpr (by omega))
      rw [if_neg e] at hq
      repeat walk_at "S"
      have hf5 : fig m ≤ 5 := by unfold fig; repeat' split
                                 all_goals omega
      refine ⟨trivial, _, ?_, baseN hs + fig m, us', _, rfl, tab_sRow hh hm, by omega, hq, rfl⟩
      walk_at "SUB"
end
section
variable {C : Cx} {A : Around} {env : Env} {wr : Bool} {ρ : Rho} {σ : Sto}
theorem Ex1.sub {st : Stmt} {ρ' : Rho} {P : Fl → Rho → Sto → Prop} (q : Sub ρ' ρ) (h : Ex1 C A env wr ρ' σ st P) : Ex1 C A env wr ρ σ st P := ⟨fun s o f E => h.run s o (f.sub q) E⟩
/-- a statement whose ways meet -/
theorem ex_join {st : Stmt} {rest : List Stmt} {P : Fl → Rho → Sto → Prop} (ρ₀ : Rho) (σ₀ : Sto) (h1 : Ex1 C A env wr ρ σ st fun fl ρ' σ' => fl = .nx ∧ σ₀ = σ' ∧ Sub ρ₀ ρ') (h2 : Ex C A env wr ρ₀ σ₀ rest P) : Ex C A env wr ρ σ (st :: rest) P :=
  ex_cons (h1.mono fun f r σ' => by rintro ⟨rfl, rfl, hs⟩; exact Ex.sub hs h2)
/-- a comprehension by what holds ahead of each turn -/
theorem comp_inv {t elt : Expr} {ifs : List Expr} {P : List D → Sto → Prop} {src : Src} (J : List D → List D → Sto → Prop) (ρ₀ : Rho) (last : ∀ acc σ, J [] acc σ → P acc σ)
    (turn : ∀ d ds acc σ, J (d :: ds) acc σ → Asg C A env false ρ₀ σ t d fun ρ₁ σ₁ => Sub ρ₀ ρ₁ ∧ Ifs C A env ρ₁ σ₁ ifs fun b σ₂ => if b then Ev C A env false ρ₁ σ₂ elt fun e σ₃ => InSt src σ₃ ∧ J ds (acc ++ [e]) σ₃ else InSt src σ₂ ∧ J ds acc σ₂) :
    ∀ {items acc : List D} {ρ : Rho} {σ : Sto}, Sub ρ₀ ρ → J items acc σ → Comp C A env t ifs elt P src items acc ρ σ
  | [], _, _, _, _, hj => last _ _ hj
  | d :: ds, acc, ρ, σ, hs, hj => by
    refine Asg.mono (Asg.sub hs (turn d ds acc σ hj)) fun ρ₁ σ₁ ⟨h1, h2⟩ => Ifs.mono h2 fun b σ₂ h3 => ?_
    cases b with
    | true => exact ite_t (by have h3 : Ev C A env false ρ₁ σ₂ elt fun e σ₃ => InSt src σ₃ ∧ J ds (acc ++ [e]) σ₃ := by simpa using h3
                              exact h3.mono fun e σ₃ h => ⟨h.1, comp_inv J ρ₀ last turn h1 h.2⟩)
    | false => exact ite_f (by have h3 : InSt src σ₂ ∧ J ds acc σ₂ := by simpa using h3
                               exact ⟨h3.1, comp_inv J ρ₀ last turn h1 h3.2⟩)
end

section
variable {C : Cx} {A : Around}
theorem ex_headers {env : Env} {wr : Bool} {ρ : Rho} {σ : Sto} {t : Str} {pt p pos pos2 : Pos} {rest : List Stmt} {P : Fl → Rho → Sto → Prop} (X : (KK C.w.params).In C.h₀) (rm : Rm 9 A)
    (h : ∀ ps x l, Tb (C.pin ps) Hc x l → Ex (C.pin ps) A env wr (setR ρ t (.raw (.ref x))) ((l, [], []) :: σ) rest P) (hst : CanSt env wr t)
    (hkn : env.kindOf "Headers" = some .globalImplicit) (hsw : swapsWith (.Call (.Name "Headers" p) [] [] pos) (some (.Name t pt)) pos2.line env = pure false) :
    Ex C A env wr ρ σ (.Assign [.Name t pt] (.Call (.Name "Headers" p) [] [] pos) pos2 :: rest) P := by
  refine ex_table (K := KK C.w.params) (Hc := Hc) (fI := 83) (fd := fd 83) (n := 6) rm X (mgK X rfl) hkn (by decide) hst hsw rfl rfl rfl rfl (fn_init X) (fun C' a σ R e hR => bnd1d (K := KK C.w.params) (by rw [e]; exact X) (fun _ _ => rfl) hR) rfl rfl rfl rfl rfl (fun L => rfl) ?_ ?_ h
  · intro C1 A1 L x e1 e2 e3 rm1
    have X1 : (KK C1.w.params).In C1.h₀ := by rw [e1, e3]; exact X
    refine ex1_assign (ev_ifexp (bv_compare (ev_var rfl (ev_none (op_isnot_none ⟨_, rfl, ite_f (ev_nil_mut fun l hl => ?_)⟩))))) (by walk_at "CAN")
    refine ⟨rfl, ?_⟩
    repeat walk_at "S"
    refine ca_type_store (List.mem_cons_self ..) ?_
    repeat walk_at "S"
    exact ⟨l, rfl, rfl, rfl⟩
  · intro C1 A1 L l ρ'' e1 e2 e3 rm1 hl
    refine ex1_if (bv_value (ev_bool (tru_bool (ite_t (ex_cons (ex1_for (ev_var hl ⟨_, _, itr_store rm1.handled (List.mem_cons_self ..), List.mem_cons_self .., ?_⟩)))))))
    exact ex_nil ⟨rfl, rfl⟩
local macro_rules | `(tactic| walk_at "XS") => `(tactic| refine ex_headers (by assumption) (Rm.le (by assumption) (by decide)) (fun ps x l T => ?_) (by walk_at "CAN") rfl rfl)

variable {P : D → Sto → Prop}
noncomputable def gLen (d : D) : Option D := match d with | .str x => some (.int ((x.length : Int) + 2)) | _ => none
noncomputable def gLine (d : D) : Option D := match d with | .str x => some (.str (x ++ Str.ofString "\r\n")) | _ => none
noncomputable def gOrd (d : D) : Option D := match d with | .str x => some (.int ((x.cps.getD 0 0 : Nat) : Int)) | _ => none
noncomputable def linesD (hs : List RC) : List D := hs.map fun r => .str (mkS (rowC r))
theorem gLen_eq (hs : List RC) : (linesD hs).filterMap gLen = (hs.map fun r => ((rowC r).length : Int) + 2).map D.int := by
  rw [linesD, List.filterMap_map, List.map_map, ← List.filterMap_eq_map]
  congr 1
theorem gLine_eq (hs : List RC) : (linesD hs).filterMap gLine = ((hs.map fun r => rowC r ++ crlf).map mkS).map D.str := by
  rw [linesD, List.filterMap_map, List.map_map, List.map_map, ← List.filterMap_eq_map]
  congr 1
  funext r
  show some (D.str (mkS (rowC r) ++ mkS crlf)) = some (D.str (mkS (rowC r ++ crlf)))
  rw [mkS_app]
theorem signs_len (l : List Nat) : (signs (mkS l)).length = l.length := by simp [signs, mkS]
theorem gOrd_eq (l : List Nat) : (signs (mkS l)).filterMap gOrd = (l.map fun (c : Nat) => (c : Int)).map D.int := by
  rw [signs, List.filterMap_map, List.map_map, ← List.filterMap_eq_map]
  rfl
theorem sjoin_cat (ls : List (List Nat)) : Str.join (mkS []) (ls.map mkS) = mkS ls.flatten := by
  induction ls with
  | nil => rfl
  | cons a ls ih =>
    cases ls with
    | nil => show mkS a = _; simp
    | cons b ls =>
      show mkS a ++ mkS [] ++ Str.join (mkS []) ((b :: ls).map mkS) = _
      rw [ih, mkS_app, mkS_app]; simp
theorem due_ne (B : Nat) : (dueL B).getLast? = some (lastD B) := by
  unfold dueL lastD; split <;> rfl
theorem dt_due (B : Nat) : Dt 8 (.list ((dueL B).map fun (n : Nat) => D.int n)) := by
  intro d hd
  obtain ⟨n, _, rfl⟩ := List.mem_map.mp hd
  exact trivial
theorem lat_apL (n : Nat) : (apC n).map Nat.toUInt8 = apL n := by
  rw [apC, List.map_map]
  conv => rhs; rw [← List.map_id (apL n)]
  refine List.map_congr_left fun c _ => ?_
  show c.toNat.toUInt8 = c
  simp
theorem rows_len {hs : List RC} {n : Nat} (h : hs.length ≤ 5) : ((sRow hs n).map toR).length ≤ 10 := by simp [sRow]; omega
theorem itr_six {C : Cx} {σ : Sto} (hh : A.handled = none) (B : Nat) (hB : B < 528) : Itr C A (.range B ((B : Int) + 6) 1) σ none ([B, B + 1, B + 2, B + 3, B + 4, B + 5].map fun (n : Nat) => D.int n) := by
  have e : rangeItems B 1 6 = [B, B + 1, B + 2, B + 3, B + 4, B + 5].map fun (n : Nat) => D.int n := by
    simp [rangeItems, List.range_succ]
  rw [← e]
  exact itr_range hh (small_one (by omega) (by omega) (by omega) (by omega)) (by rw [rangeSize_nat]; omega)
theorem lastD_lt {B : Nat} (h : B < 528) : lastD B < 1048576 := by
  have := figs_le B
  unfold lastD
  split <;> omega
theorem law_walk (X : (KK C.w.params).In C.h₀) (rm : Rm 24 A) {script : List Int} (hl : script.length ≤ 63) (h : ∀ σ, P (.bool true) σ) : Ca C A (.ref 231) [.list (script.map .int)] [] [] P := by
  refine ca_fun (n := 23) rm (fn_law X) (bnd1 (x := "script") (fun _ => rfl) ⟨rfl, fun L => ?_⟩)
  have rm' := rm.deeper (fenv (fd 231) 231 L)
  have hs : sizeLine = 16777216 := rfl
  repeat walk_at "S"
  refine cut_list (by simp; omega) ?_
  rw [show (some (3 : Int)) = some ((3 : Nat) : Int) from rfl, cutL_take, ← List.map_take]
  refine op_add_list (by simp; omega) ?_
  repeat walk_at "S"
  rename_i ps x l T
  have X2 : (KK (C.pin ps).w.params).In (C.pin ps).h₀ := X
  rw [show ([D.int 0, D.int 20825] ++ List.map D.int (List.take 3 script)) = (([0, 20825] : List Int) ++ script.take 3).map D.int from rfl]
  have hns : (([0, 20825] : List Int) ++ script.take 3).length ≤ 5 := by simp; omega
  have hns2 : 2 ≤ (([0, 20825] : List Int) ++ script.take 3).length := by simp
  generalize (([0, 20825] : List Int) ++ script.take 3) = ns at hns hns2 ⊢
  refine ca_len_list (by simp; omega) ?_
  rw [List.length_map]
  repeat walk_at "S"
  refine ⟨_, _, itr_upto rm'.handled _ (by omega), trivial, fun ds ρ σ' => ∃ (k : Nat) (rest : List Int) (hs : List RC) (R : List (Str × Str)) (vs : List Value) (lo hi : Nat), ds = (List.range' k rest.length).map (fun (i : Nat) => D.int i) ∧ ns.drop k = rest ∧ σ' = [(l, vs, hdrs R)] ∧
    Hs hs ∧ hs.length = k ∧ Tab hs R ∧ R.length ≤ 10 ∧ lo ≤ baseN hs + 3 ∧ hi < 1048576 ∧ (k = 0 ∨ R = (sRow hs hi).map toR) ∧
    ρ = ([("numbers", .list (ns.map .int)), ("table", .raw (.ref x)), ("lines", .list (linesD hs)), ("low", .int lo), ("high", .int hi)] : Rho), _, SubL.sub (ρ' := ([("numbers", .list (ns.map .int)), ("table", .raw (.ref x)), ("lines", .list (linesD [])), ("low", .int ((0 : Nat) : Int)), ("high", .int ((0 : Nat) : Int))] : Rho)) ⟨rfl, rfl, rfl, rfl, rfl, trivial⟩,
    ⟨0, ns, [], [], [], 0, 0, rfl, rfl, rfl, ⟨Nat.zero_le _, fun _ z => (by cases z)⟩, rfl, ⟨⟨Nat.zero_le _, fun _ z => (by cases z)⟩, rfl⟩, Nat.zero_le _, Nat.zero_le _, by decide, .inl rfl, rfl⟩, ?_, ?_⟩
  · rintro ρ _ ⟨k, rest, hh, R, vs, lo, hi, e, hd, rfl, hH, hk, hT, _, _, hhi, hR, rfl⟩
    have hr0 : rest = [] := by cases rest <;> simp_all [List.range'_succ]
    have hk0 : ¬ k = 0 := by
      intro z
      have := congrArg List.length hd
      rw [hr0, z] at this
      simp at this
      subst this
      simp at hns2
    have hR := hR.resolve_left hk0
    subst hR
    have hlen := hH.len
    have hrow : ∀ r ∈ hh, (rowC r).length ≤ 102 := fun r hr => (row_len (hH.all r hr)).2
    have hbl := baseN_le hH.all
    repeat walk_at "S"
    refine ⟨_, _, itr_list rm'.handled, trivial, by simp [linesD]; omega, fun Dd Lc => comp_go gLine _ .refl trivial ?_ ?_⟩
    · intro d hd'
      obtain ⟨r, hr, rfl⟩ := List.mem_map.mp hd'
      have := hrow r hr
      repeat walk_at "S"
      refine op_add_str (y := mkS crlf) (by rw [mkS_len, mkS_len]; simp [crlf]; omega) ⟨rfl, rfl⟩
    rw [gLine_eq]
    have hfl : ((hh.map fun r => rowC r ++ crlf)).flatten.length + 7 = baseN hh := by rw [baseN, List.flatMap_def]
    refine ca_join (x := mkS []) (joinOk_of ?_) ?_
    · have e1 : (mkS []).length = 0 := rfl
      rw [e1, Nat.mul_zero, Nat.add_zero, List.map_map, show (Str.length ∘ mkS) = List.length from funext mkS_len, ← List.length_flatten]
      omega
    rw [join_eq, sjoin_cat]
    repeat walk_at "S"
    have hin : (l, vs, hdrs ((sRow hh hi).map toR)) ∈ [(l, vs, hdrs ((sRow hh hi).map toR))] := List.mem_singleton_self _
    have hr3 := sRow_rows3 hH hhi
    refine ca_bytes_own X2 T rfl rfl (bytes_ X2 (Rm.in1 (Rm.in1 (rm'.le (show 10 ≤ 23 by decide)))) T hin hr3 ⟨_, rfl, ?_⟩)
    repeat walk_at "S"
    refine ⟨_, _, itr_str rm'.handled, trivial, by rw [signs_len]; omega, fun Dd Lc => comp_go gOrd _ .refl trivial ?_ ?_⟩
    · intro d hd'
      obtain ⟨c, hc, rfl⟩ := List.mem_map.mp hd'
      repeat walk_at "S"
      rfl
    rw [gOrd_eq]
    have hlat : ∀ c ∈ (hh.map fun r => rowC r ++ crlf).flatten, c < 256 := fun c hc => headC_lat hH.rows3 c (by rw [headC, List.flatMap_def]; exact List.mem_append_left _ hc)
    refine ca_bytes_list rm'.handled ?_ (by rw [List.length_map]; omega) ?_
    · intro n hn
      obtain ⟨c, hc, rfl⟩ := List.mem_map.mp hn
      have := hlat c hc
      omega
    repeat walk_at "S"
    have hwl := apL_len 5 hi hhi
    have hsz : (byteArr ((hh.map fun r => rowC r ++ crlf).flatten.map fun (c : Nat) => (c : Int))).size ≤ 1000 := by rw [byteArr, List.size_toArray, List.length_map, List.length_map]; omega
    refine op_add_bytes (by simp at *; omega) ?_
    repeat walk_at "S"
    refine int2ap X2 (rm'.le (by decide)) (by rw [Int.natAbs_natCast]; exact Nat.lt_of_lt_of_le hhi (by decide)) ?_
    refine op_add_bytes (by simp at *; omega) ?_
    repeat walk_at "S"
    refine op_add_bytes (by simp at *; omega) ?_
    refine op_eq_bytes ?_
    rw [show (((headC (sRow hh hi)).map Nat.toUInt8).toArray.toList == _) = true from beq_iff_eq.mpr ?_]
    · exact h _
    · rw [headC_sRow, List.flatMap_def]
      simp only [List.map_append, lat_apL, byteArr]
      rw [show (fun n : Int => n.toNat.toUInt8) = fun n : Int => n.toNat.toUInt8 from rfl, List.map_map]
      rw [show ((fun n : Int => n.toNat.toUInt8) ∘ fun (c : Nat) => (c : Int)) = Nat.toUInt8 from funext fun c => by simp]
      simp
  · rintro d ds ρ _ ⟨k, rest, hh, R, vs, lo, hi, e, hd, rfl, hH, hk, hT, hRl, hlo, hhi, hR, rfl⟩
    cases rest with
    | nil => cases e
    | cons n rest =>
      rw [List.length_cons, List.range'_succ, List.map_cons] at e
      cases e
      have hkn : ns[k]? = some n := by rw [← List.head?_drop, hd]; rfl
      have hk5 : k < 5 := by have := (List.getElem?_eq_some_iff.mp hkn).1; omega
      have e2 : ns.drop (k + 1) = rest := by rw [← List.drop_drop, hd]; rfl
      obtain ⟨a, ea, ha⟩ : ∃ a : Nat, n / 746496 % 80 = (a : Int) ∧ a < 80 := ⟨(n / 746496 % 80).toNat, by omega, by omega⟩
      obtain ⟨s1, es1, hs1⟩ : ∃ a : Nat, n % 4 = (a : Int) ∧ a ≤ 3 := ⟨(n % 4).toNat, by omega, by omega⟩
      obtain ⟨s2, es2, hs2⟩ : ∃ a : Nat, n / 4 % 4 = (a : Int) ∧ a ≤ 3 := ⟨(n / 4 % 4).toNat, by omega, by omega⟩
      have hkw : k < 16 ^ 1000 := Nat.lt_of_lt_of_le hk5 (by decide)
      repeat walk_at "S"
      refine op_item_list (by omega) (by omega) (by rw [Int.toNat_natCast, List.getElem?_map, hkn]; rfl) ?_
      repeat walk_at "S"
      rw [ea]
      refine op_mul_str (mulOk_x a ha) ?_
      rw [mul_x]
      repeat walk_at "S"
      rw [es1]
      refine law_text X2 (rm'.le (by decide)) hs1 ?_
      have ht1 := tx_text (n / 16) hs1
      generalize textC (n / 16) s1 = t1 at ht1 ⊢
      have ht1l := ht1.1
      refine op_add_str (by rw [mkS_len, mkS_len]; simp; omega) ?_
      rw [mkS_app]
      have hown : (List.replicate a 120 ++ t1).length ≤ 82 := by simp; omega
      have hownc : ∀ c ∈ List.replicate a 120 ++ t1, (32 ≤ c ∧ c ≠ 127) ∧ c < 256 := by
        intro c hc
        rcases List.mem_append.mp hc with hc | hc
        · rw [List.eq_of_mem_replicate hc]; decide
        · exact sgnL_ok c (ht1.2 c hc)
      generalize List.replicate a 120 ++ t1 = own at hown hownc ⊢
      repeat walk_at "S"
      rw [es2]
      refine law_text X2 (rm'.le (by decide)) hs2 ?_
      have ht2 := tx_text (n / 3456) hs2
      generalize textC (n / 3456) s2 = v at ht2 ⊢
      have hvl := ht2.1
      repeat walk_at "S"
      refine law_word X2 (rm'.le (by decide)) hkw ?_
      repeat walk_at "S"
      have hesc := esc_eq ht2
      have hpl := paramC_len ht2
      refine add_header X2 (rm'.le (by decide)) T hT.rows (nm_word (by omega)) (fun c hc => (hownc c hc).1) (by rw [mkS_len]; omega) (fun c hc => (sgnL_ok c (ht2.2 c hc)).1) (by rw [mkS_len]; omega) hesc.2.1 (by rw [hesc.1, mkS_len]; omega) ?_ fun us => ?_
      · rw [param_eq ht2]
        refine joinOk_of ?_
        show ((mkS own).length + ((mkS (paramC v)).length + 0)) + 2 * 2 ≤ _
        rw [mkS_len, mkS_len]; omega
      rw [join2_eq ht2]
      have hH3 : H3 (mkRow (apC k) own v) := by
        refine ⟨⟨k, hk5, rfl⟩, ?_, ?_⟩
        · simp [mkRow]; omega
        · intro c hc
          rcases List.mem_append.mp hc with hc | hc
          · rcases List.mem_append.mp hc with hc | hc
            · exact (hownc c hc).2
            · simp at hc; omega
          · exact paramC_lat ht2 c hc
      have hT' := tab_add hT hH3 hRl
      rw [show (R ++ [(mkS (apC k), mkS (own ++ [59, 32] ++ paramC v))]) = R ++ [toR (mkRow (apC k) own v)] from rfl]
      have hHs : Hs (hh ++ [mkRow (apC k) own v]) := ⟨by simp; omega, fun r hr => by
        rcases List.mem_append.mp hr with hr | hr
        · exact hH.all r hr
        · rw [List.mem_singleton.mp hr]; exact hH3⟩
      repeat walk_at "S"
      refine law_word X2 (rm'.le (by decide)) hkw ?_
      repeat walk_at "S"
      refine law_line X2 (rm'.le (by decide)) (by have := apC_len 5 k (by omega); omega) (by omega) ht2 ?_
      rw [← rowC_mkRow]
      repeat walk_at "S"
      refine op_add_list (by simp [linesD]; omega) ?_
      have hll : linesD hh ++ [D.str (mkS (rowC (mkRow (apC k) own v)))] = linesD (hh ++ [mkRow (apC k) own v]) := by simp [linesD]
      rw [hll]
      have hbase : baseN hh + 4 ≤ baseN (hh ++ [mkRow (apC k) own v]) := by rw [baseN_app]; have := (row_len hH3).1; omega
      have hlen' : (hh ++ [mkRow (apC k) own v]).length = k + 1 := by simp; omega
      clear hll hH hT hR
      generalize hh ++ [mkRow (apC k) own v] = hs' at hHs hT' hbase hlen' ⊢
      have hRl' : (R ++ [toR (mkRow (apC k) own v)]).length ≤ 11 := by simp; omega
      generalize R ++ [toR (mkRow (apC k) own v)] = R' at hT' hRl' ⊢
      have hl5 := hHs.len
      have hrow : ∀ r ∈ hs', (rowC r).length ≤ 102 := fun r hr => (row_len (hHs.all r hr)).2
      repeat walk_at "S"
      refine ⟨_, _, itr_list rm'.handled, trivial, by simp [linesD]; omega, fun Dd Lc => comp_go gLen _ .refl trivial ?_ ?_⟩
      · intro d hd'
        obtain ⟨r, hr, rfl⟩ := List.mem_map.mp hd'
        have := hrow r hr
        repeat walk_at "S"
        refine ca_len_str (by rw [mkS_len]; omega) ?_
        repeat walk_at "S"
        rfl
      rw [gLen_eq]
      refine ca_sum rm'.handled ?_
      refine op_add_int ?_
      rw [base_sum]
      have hB1 : baseN hs' < 528 := by have := baseN_le hHs.all; omega
      have hB2 : 7 ≤ baseN hs' := by unfold baseN; omega
      have hlo' : lo ≤ baseN hs' := by omega
      have hoct : ∀ {C : Cx} {A : Around} {P : D → Sto → Prop}, (KK C.w.params).In C.h₀ → Tb C Hc x l → Rm 14 A → ∀ {n : Nat} {vs : List Value} {R : List (Str × Str)}, Tab hs' R → n < 1048576 → (∀ us, P (.int ((baseN hs' + fig n : Nat) : Int)) [(l, us, hdrs ((sRow hs' n).map toR))]) → Ca C A (.ref 219) [.raw (.ref x), .int n] [] [(l, vs, hdrs R)] P :=
        fun X T rm _ _ _ hR hn h => law_octets X rm T hHs hR hn h
      generalize hBe : baseN hs' = B at hB1 hB2 hlo' hoct ⊢
      have hfl := figs_le B
      repeat walk_at "S"
      refine Ex1.sub (ρ' := [("numbers", .list (ns.map .int)), ("table", .raw (.ref x)), ("lines", .list (linesD hs')), ("low", .int lo), ("base", .int B), ("figures", .int ((1 : Nat) : Int))]) (by walk_at "SUB") ?_
      refine ex1_while (fun j ρ' σ' => σ' = [(l, us, hdrs R')] ∧ ∃ f : Nat, 1 ≤ f ∧ f ≤ figs B ∧ j = figs B - f ∧ ρ' = ([("numbers", .list (ns.map .int)), ("table", .raw (.ref x)), ("lines", .list (linesD hs')), ("low", .int lo), ("base", .int B), ("figures", .int f)] : Rho)) (figs B - 1) ⟨rfl, 1, Nat.le_refl _, hfl.1, rfl, rfl⟩ ?_
      rintro j ρ' _ ⟨rfl, f, hf1, hf2, rfl, rfl⟩
      have hpow : ∀ f : Nat, f ≤ 3 → ((Builtin.Int.intBits 16 : Nat) : Int) * (f : Int) ≤ 2 ^ 27 := by
        intro f hf
        have : Builtin.Int.intBits 16 ≤ 5 := intBits_le (by decide)
        have h1 : ((Builtin.Int.intBits 16 : Nat) : Int) * (f : Int) ≤ 5 * 3 := Int.mul_le_mul (by omega) (by omega) (by omega) (by omega)
        exact Int.le_trans h1 (by decide)
      have hp16 : ∀ f : Nat, (16 : Int) ^ ((f : Int)).toNat = ((16 ^ f : Nat) : Int) := fun f => by rw [Int.toNat_natCast]; simp
      repeat walk_at "S"
      refine op_pow_int (by omega) (hpow f (by omega)) ?_
      rw [hp16]
      repeat walk_at "S"
      have hst := figs_step hB1 hf1 hf2
      split
      · rename_i hq
        have hq : 16 ^ f ≤ B + f := by have := of_decide_eq_true hq; omega
        have := hst.1 hq
        repeat walk_at "S"
        refine ⟨figs B - (f + 1), by omega, _, ?_, rfl, f + 1, by omega, by omega, rfl, rfl⟩
        walk_at "SUB"
      · rename_i hq
        have hq : ¬ 16 ^ f ≤ B + f := fun z => hq (decide_eq_true (by omega))
        have hfe := hst.2 hq
        subst hfe
        refine ex_cons (ex1_assign (ev_list (evl_cons (ev_binop (ev_var rfl (ev_var rfl (op_add_int (evl_nil ⟨Nat.le_of_ble_eq_true rfl, ?_⟩))))))) (by walk_at "CAN"))
        refine ex_join ([("numbers", .list (ns.map .int)), ("table", .raw (.ref x)), ("lines", .list (linesD hs')), ("low", .int lo), ("base", .int B), ("due", .list ((dueL B).map fun (n : Nat) => D.int n))] : Rho) [(l, us, hdrs R')] ?_ ?_
        · repeat walk_at "S"
          refine op_pow_int (by omega) (hpow _ (by omega)) ?_
          rw [hp16]
          repeat walk_at "S"
          split
          · rename_i hq2
            have hq2 : B + figs B + 1 = 16 ^ figs B := by have := eq_of_beq hq2; omega
            repeat walk_at "S"
            refine op_pow_int (by omega) (hpow _ (by omega)) ?_
            rw [hp16]
            repeat walk_at "S"
            refine op_add_list (Nat.le_of_ble_eq_true rfl) ?_
            repeat walk_at "S"
            refine SubL.sub ⟨rfl, rfl, rfl, rfl, rfl, ?_, trivial⟩
            rw [dueL, if_pos hq2]; rfl
          · rename_i hq2
            have hq2 : ¬ B + figs B + 1 = 16 ^ figs B := fun z => hq2 (beq_iff_eq.mpr (by omega))
            repeat walk_at "S"
            refine SubL.sub ⟨rfl, rfl, rfl, rfl, rfl, ?_, trivial⟩
            rw [dueL, if_neg hq2]; rfl
        repeat walk_at "S"
        refine ⟨_, _, itr_six rm'.handled B hB1, trivial, Nat.le_of_ble_eq_true rfl, fun Dd Lc => comp_inv (fun ds acc σ' => ∃ (todo : List Nat) (us : List Value) (R : List (Str × Str)), ds = todo.map (fun (n : Nat) => D.int n) ∧ σ' = [(l, us, hdrs R)] ∧ Tab hs' R ∧ (∀ n ∈ todo, n < 1048576) ∧
          acc ++ (todo.filter fun n => B + fig n == n).map (fun (n : Nat) => D.int n) = (dueL B).map fun (n : Nat) => D.int n) [("table", .raw (.ref x))] ?_ ?_ (SubL.sub ⟨rfl, trivial⟩) ⟨[B, B + 1, B + 2, B + 3, B + 4, B + 5], us, R', rfl, rfl, hT', by simp; omega, ?_⟩⟩
        · rintro acc _ ⟨todo, us2, R2, et, rfl, hT2, _, hf⟩
          have : todo = [] := by cases todo; rfl; cases et
          subst this
          have hf : acc = (dueL B).map fun (n : Nat) => D.int n := by simpa using hf
          subst hf
          repeat walk_at "S"
          refine op_ne_self rm' (dt_due B) ?_
          repeat walk_at "S"
          refine law_settled (r := B + figs B) X2 (rm'.le (by decide)) T hHs hT2 (by omega) (by omega) (by rw [hBe]; exact settle_low hB1 hB2 hlo') fun us3 => ?_
          repeat walk_at "S"
          refine law_settled (n := 65536) (r := lastD B) X2 (rm'.le (by decide)) T hHs (tab_sRow hHs (by omega)) (by decide) (by omega) (by rw [hBe]; exact settle_high B hB1) fun us4 => ?_
          repeat walk_at "S"
          rw [show ((((B + figs B : Nat) : Int)) != ((B + figs B : Nat) : Int)) = false from bne_self_eq_false _]
          repeat walk_at "S"
          refine op_last_list (d := .int (lastD B : Nat)) (by rw [List.getLast?_map, due_ne]; rfl) ?_
          repeat walk_at "S"
          rw [show (((lastD B : Nat) : Int) != ((lastD B : Nat) : Int)) = false from bne_self_eq_false _]
          repeat walk_at "S"
          refine ⟨trivial, _, ?_, k + 1, rest, hs', (sRow hs' (lastD B)).map toR, us4, B + figs B, lastD B, rfl, e2, rfl, hHs, hlen', tab_sRow hHs (lastD_lt hB1), rows_len hl5, by omega, lastD_lt hB1, .inr rfl, rfl⟩
          walk_at "SUB"
        · rintro d ds acc _ ⟨todo, us2, R2, et, rfl, hT2, hlt, hf⟩
          cases todo with
          | nil => cases et
          | cons m todo =>
            cases et
            have hm := hlt m (.head _)
            repeat walk_at "S"
            refine hoct (C := (C.pin ps).hid Dd) X2 ⟨T.get⟩ (rm'.le (by decide)) hT2 hm fun us3 => ?_
            repeat walk_at "S"
            rw [List.filter_cons] at hf
            split
            · rename_i hq3
              have hq3 : (B + fig m == m) = true := beq_iff_eq.mpr (by have := eq_of_beq hq3; omega)
              rw [if_pos hq3] at hf
              repeat walk_at "S"
              exact ⟨trivial, todo, us3, _, rfl, rfl, tab_sRow hHs hm, fun n hn => hlt n (.tail _ hn), by simpa using hf⟩
            · rename_i hq3
              have hq3 : ¬ (B + fig m == m) = true := fun z => hq3 (beq_iff_eq.mpr (by have := eq_of_beq z; omega))
              rw [if_neg hq3] at hf
              exact ⟨trivial, todo, us3, _, rfl, rfl, tab_sRow hHs hm, fun n hn => hlt n (.tail _ hn), hf⟩
        · rw [due_filter B hB1 hB2]; rfl
end
theorem repL_ints {h : Heap} {S : List Addr} : ∀ {vs : List Value} {xs : List Int}, IntsAre vs xs → RepL h S vs (xs.map .int)
  | _, _, .nil => .nil
  | _, _, .cons _ _ r => .cons (.int _ _) (repL_ints r)
theorem fin3 : PySem.Challenge.rw_ny0205_03.Holds := hd (by
  intro w s₀ s₁ mg mb G Y fa o pm cd doc dV kV ho hd' hcd hD hmg hg args vals as hpre hlay hrd hwl hlo
  have KX : (KK w.params).In s₁.heap := kIn_of Y
  wrow_args hpre hlay hrd hwl hlo
  rename IntsAre _ _ => hI
  rename Heap.IsList _ _ _ => hL
  rename ¬ _ => hc
  have hfa : fa = 231 := by
    have h1 : mg "law" = some (.ref 231) := mg_of KX G.T.g rfl
    have h2 : mg "law" = some (.ref fa) := hmg
    rw [h1] at h2
    cases h2
    rfl
  subst hfa
  have ok : Ok ⟨Challenge.rw_ny0205_03.row.prog, w, s₁.heap, mg, mb, [], G.T.g, G.T.b, G.T.nolimit, G.T.builtins, G.T.nodigits, []⟩ [] s₁.heap :=
    ⟨fun _ _ e => e, fun _ z => (by cases z), fun _ z => (by cases z), fun _ z => (by cases z), .nil, fun _ z => (by cases z)⟩
  refine wpAny_mono ((law_walk (C := ⟨Challenge.rw_ny0205_03.row.prog, w, s₁.heap, mg, mb, [], G.T.g, G.T.b, G.T.nolimit, G.T.builtins, G.T.nodigits, []⟩) (A := callerA) (P := fun d _ => d = .bool true) KX ⟨rfl, by decide, by decide⟩ (by omega) fun _ => rfl).run s₁ [.ref _] [] ok
    (.cons (.list hL (by intro z; cases z) (repL_ints hI)) .nil) .nil _) ?_ fun _ _ x => x
  rintro v s' ⟨_, σ', rfl, r, n⟩
  cases r
  exact GoodW.toG ⟨.inl ⟨_, .bool true, [], rfl, fun _ => rfl, .bool _, by kernel_rfl, fun _ => ⟨.nil, fun _ z => (by cases z)⟩⟩, n.ok.base, n.os, n.gens.trans hg⟩)
end Mine
theorem PySem.Challenge.cw_ny0205_03_holds : PySem.Challenge.rw_ny0205_03.Holds :=
  Mine.fin3
