import PyProof.Rows.All
import Wide.All
import OpenK.AllK
import Wide.FinOn
import PyProof.Rows.RaiseClass
import KE.KRevSl
import PyProof.IsiH_list
import KE.KSuperObj
import PyProof.ListRange
import PyProof.ZipIter
import PyProof.ListNew
import PySem.Challenge.RW_ik0128_01
open PySem PySem.W PyProof.Rows PySem.Calls
set_option Elab.async false
set_option maxRecDepth 100000
set_option maxHeartbeats 8000000
set_option linter.unusedVariables false
set_option linter.unusedSimpArgs false
set_option linter.deprecated false
set_option compiler.extract_closed false
namespace Mine
/-- values as the proofs see them: without tokens -/
inductive V where
  | unb | none | bool (b : Bool) | int (i : Int) | str (x : Str) | raw (v : Value)
  | list (l : List V) | arr (l : List V) | tuple (l : List V) | loan (l : List V) | own (l : List V) | ownA (l : List V) | bound (k : Nat) | range (a b c : Int)

noncomputable def RepA : V → Value → Prop
  | .none, v => v = .none
  | .bool b, v => v = .bool b
  | .int i, v => ∃ t, v = .int i t
  | .str x, v => ∃ t, v = .str x t
  | .raw u, v => v = u
  | _, _ => False

noncomputable def Reps : List V → List Value → Prop
  | [], [] => True
  | a :: l, v :: vs => RepA a v ∧ Reps l vs
  | _, _ => False

noncomputable def Rep (bad : Addr → Prop) (h : Heap) : V → Value → Prop
  | .list l, v => ∃ a items, v = .ref a ∧ ¬ bad a ∧ h.PlainList a (List.toArray items) ∧ Reps l items
  | .arr l, v => ∃ a items, v = .ref a ∧ ¬ bad a ∧ h.IsList a (List.toArray items) ∧ Reps l items
  | .tuple l, v => ∃ a items, v = .ref a ∧ ¬ bad a ∧ IsTup h a (List.toArray items) ∧ Reps l items
  | .loan l, v => ∃ a items, v = .ref a ∧ h.IsList a (List.toArray items) ∧ Reps l items
  | .range a b c, v => ∃ r t u w, v = .ref r ∧ ¬ bad r ∧ IsRange h r a b c t u w
  | x, v => RepA x v

/-- the scope of _translate, told by its names -/
noncomputable def tNames : List Str := ["pat", "STAR", "QUESTION_MARK", "res", "add", "i", "n", "c", "j", "stuff", "chunks", "k", "chunk"]
noncomputable def isT (F : Scope) : Bool := (F.names.map (·.1)).take 13 == tNames

structure Gl where
  prog : Program
  w : World
  g₀ : Heap
  mg : Str → Option Value
  mb : Str → Option Value
  tab : Addr
  tc : Addr
  t0 : Nat
  g : g₀.Ns mainGlobals mg
  b : g₀.Ns builtinsNs mb
  nl : g₀.NoLimit
  tabNo : g₀.get? tab = none
  boot : ∀ x : Str, x ≠ "__name__" → mb x = bootBuiltins x
  TabOk : (Addr → Prop) → Heap → Prop
  tabLive : ∀ {bad h}, TabOk bad h → ∃ o, h.get? tab = some o
  tabKeep : ∀ {bad bad' : Addr → Prop} {h h' : Heap}, TabOk bad h → (∀ b, bad' b → bad b ∨ h.get? b = none) →
    (∀ b o, (b = tab ∨ ¬ bad b) → h.get? b = some o → h'.get? b = some o) → TabOk bad' h'

/-- the heap grows; the table may turn where t says so -/
noncomputable def Kt (G : Gl) (t : Bool) (s s' : Shared) : Prop :=
  ∃ h' tk, s' = { s with heap := h', toks := tk } ∧ ∀ b o, (t = true → b ≠ G.tab) → s.heap.get? b = some o → h'.get? b = some o

structure Dyn where
  A : Around
  env : Env
  mu : Addr → Prop

noncomputable def Bad (D : Dyn) (ow : Nat → Option Addr) : Addr → Prop := fun b => D.mu b ∨ ∃ k, ow k = some b

noncomputable def Room (n : Nat) (A : Around) : Prop := A.depth + n < 900 ∧ A.units + 20 * n < 9000 ∧ A.handled = none

structure Dyn.Ok (G : Gl) (n : Nat) (F : Scope) (D : Dyn) : Prop where
  scope : D.env.scope = F
  kind : F.kind = .function
  glob : D.env.globals = mainGlobals
  blt : D.env.builtins = builtinsNs
  room : Room n D.A
  mutL : D.mu D.env.locals
  mutC : ∀ c ∈ D.env.cells, D.mu c.2
  mutT : D.mu G.tab
  noL : G.g₀.get? D.env.locals = Option.none
  noC : ∀ c ∈ D.env.cells, G.g₀.get? c.2 = Option.none
  LT : D.env.locals ≠ G.tab
  CT : ∀ c ∈ D.env.cells, c.2 ≠ G.tab
  LC : ∀ c ∈ D.env.cells, c.2 ≠ D.env.locals
  apart : D.env.cells.Pairwise fun x y => x.2 ≠ y.2
  nodup : (F.names.map (·.1)).Nodup
  code : isT F = true → D.env.code = .ref G.tc

noncomputable def RepVar (D : Dyn) (ow : Nat → Option Addr) (h : Heap) (k : Nat) : V → Value → Prop
  | .own l, v => ∃ a items, v = .ref a ∧ ow k = some a ∧ h.PlainList a (List.toArray items) ∧ Reps l items
  | .ownA l, v => ∃ a items, v = .ref a ∧ ow k = some a ∧ h.IsList a (List.toArray items) ∧ Reps l items
  | .bound j, v => ∃ q a, v = .ref q ∧ ow j = some a ∧ ¬ Bad D ow q ∧ h.get? q = some { cls := .type "builtin_function_or_method", data := .fields #[.builtin "list.append", .ref a] }
  | .loan _, _ => False
  | x, v => Rep (Bad D ow) h x v

structure Rel (G : Gl) (D : Dyn) (ow : Nat → Option Addr) (σ : List V) (s : Shared) : Prop where
  keep : ∀ b o, G.g₀.get? b = some o → s.heap.get? b = some o
  toks : G.t0 ≤ s.toks
  tab : G.TabOk (Bad D ow) s.heap
  live : ∀ b, D.mu b → ∃ o, s.heap.get? b = some o
  ns : ∃ m, s.heap.Ns D.env.locals m ∧ ∀ k x v, D.env.scope.names[k]? = some (x, .local) → σ[k]? = some v → v ≠ .unb → ∃ val, m x = some val ∧ RepVar D ow s.heap k v val
  cells : ∀ k x, D.env.scope.names[k]? = some (x, .cell) → ∃ c vo, D.env.cells.lookup x = some c ∧ s.heap.IsCell c vo ∧
    ∀ v, σ[k]? = some v → v ≠ .unb → ∃ val, vo = some val ∧ RepVar D ow s.heap k v val
  own : ∀ k a, ow k = some a → ¬ D.mu a ∧ (∃ o, s.heap.get? a = some o) ∧ G.g₀.get? a = Option.none
  inj : ∀ k k' a, ow k = some a → ow k' = some a → k = k'

/-- an expression gives a value; the heap only grows -/
noncomputable def EP (G : Gl) (n : Nat) (F : Scope) (t : Bool) (e : Expr) (σ : List V) (v : V) : Prop :=
  ∀ D ow s E, D.Ok G n F → Rel G D ow σ s →
    wpAny (model G.prog G.w) D.A (eval e D.env) (fun val s' => Rep (Bad D ow) s'.heap v val ∧ Kt G t s s' ∧ G.TabOk (Bad D ow) s'.heap) E s
/-- a fresh list -/
noncomputable def EF (G : Gl) (n : Nat) (F : Scope) (t : Bool) (e : Expr) (σ : List V) (l : List V) : Prop :=
  ∀ D ow s E, D.Ok G n F → Rel G D ow σ s →
    wpAny (model G.prog G.w) D.A (eval e D.env) (fun val s' => (∃ a items, val = .ref a ∧ s.heap.get? a = Option.none ∧ s'.heap.PlainList a (List.toArray items) ∧ Reps l items) ∧ Kt G t s s' ∧ G.TabOk (Bad D ow) s'.heap) E s
/-- a test -/
noncomputable def ET (G : Gl) (n : Nat) (F : Scope) (t : Bool) (e : Expr) (σ : List V) (b : Bool) : Prop :=
  ∀ D ow s E, D.Ok G n F → Rel G D ow σ s →
    wpAny (model G.prog G.w) D.A (isTrue e D.env (eval e D.env)) (fun r s' => r = b ∧ Kt G t s s' ∧ G.TabOk (Bad D ow) s'.heap) E s

inductive Flo where
  | next | brk | cont | ret (v : V)

noncomputable def FloRep (mu : Addr → Prop) (h : Heap) : Flo → Flow → Prop
  | .next, .next => True
  | .brk, .brk => True
  | .cont, .cont => True
  | .ret v, .ret val => Rep mu h v val
  | _, _ => False

noncomputable def Off (G : Gl) (t : Bool) (D : Dyn) (ow : Nat → Option Addr) (b : Addr) : Prop :=
  b ≠ D.env.locals ∧ (∀ c ∈ D.env.cells, c.2 ≠ b) ∧ (∀ k, ow k ≠ some b) ∧ (t = true → b ≠ G.tab)
/-- what a statement may turn: the frame, its cells, its own lists (and the table) -/
noncomputable def KX (G : Gl) (t : Bool) (D : Dyn) (ow : Nat → Option Addr) (s s' : Shared) : Prop :=
  ∃ h' tk, s' = { s with heap := h', toks := tk } ∧ ∀ b o, Off G t D ow b → s.heap.get? b = some o → h'.get? b = some o
noncomputable def OwG (ow ow' : Nat → Option Addr) (s : Shared) : Prop := ∀ k a, ow' k = some a → (∃ k', ow k' = some a) ∨ s.heap.get? a = Option.none

noncomputable def XPost (G : Gl) (t : Bool) (D : Dyn) (ow : Nat → Option Addr) (s : Shared) (Q : Flo → List V → Prop) (fl : Flow) (s' : Shared) : Prop :=
  ∃ f σ' ow', FloRep D.mu s'.heap f fl ∧ Rel G D ow' σ' s' ∧ KX G t D ow s s' ∧ OwG ow ow' s ∧ Q f σ'

noncomputable def EX1 (G : Gl) (n : Nat) (F : Scope) (t : Bool) (st : Stmt) (σ : List V) (Q : Flo → List V → Prop) : Prop :=
  ∀ D ow s E, D.Ok G n F → Rel G D ow σ s → wpAny (model G.prog G.w) D.A (exec st D.env) (XPost G t D ow s Q) E s
noncomputable def EX (G : Gl) (n : Nat) (F : Scope) (t : Bool) (ss : List Stmt) (σ : List V) (Q : Flo → List V → Prop) : Prop :=
  ∀ D ow s E, D.Ok G n F → Rel G D ow σ s → wpAny (model G.prog G.w) D.A (execs ss D.env) (XPost G t D ow s Q) E s

noncomputable def RepAll (bad : Addr → Prop) (h : Heap) : List V → List Value → Prop
  | [], [] => True
  | a :: l, v :: vs => Rep bad h a v ∧ RepAll bad h l vs
  | _, _ => False

/-- what holds around a call -/
structure Around0 (G : Gl) (mu : Addr → Prop) (s : Shared) : Prop where
  keep : ∀ b o, G.g₀.get? b = some o → s.heap.get? b = some o
  toks : G.t0 ≤ s.toks
  tab : G.TabOk mu s.heap
  live : ∀ b, mu b → ∃ o, s.heap.get? b = some o
  mutT : mu G.tab

/-- a call of anything: by values -/
noncomputable def CallV (G : Gl) (n : Nat) (t : Bool) (f : Value) (args : List V) (r : V) : Prop :=
  ∀ A mu s vals E, Room n A → Around0 G mu s → RepAll mu s.heap args vals →
    wpAny (model G.prog G.w) A (call f vals) (fun val s' => Rep mu s'.heap r val ∧ Kt G t s s' ∧ G.TabOk mu s'.heap) E s

/-! plain facts -/
theorem RepA.persist {a : V} {v : Value} (h : RepA a v) : ∀ x, a ≠ .own x := by
  intro x e; subst e; exact h

theorem IsList.mono {h h' : Heap} {a : Addr} {items : Array Value} (x : h.IsList a items) (k : ∀ o, h.get? a = some o → h'.get? a = some o) : h'.IsList a items := by
  obtain ⟨o, ho, r⟩ := x; exact ⟨o, k o ho, r⟩
theorem IsTup.mono {h h' : Heap} {a : Addr} {items : Array Value} (x : IsTup h a items) (k : ∀ o, h.get? a = some o → h'.get? a = some o) : IsTup h' a items := by
  obtain ⟨o, ho, r⟩ := x; exact ⟨o, k o ho, r⟩
theorem PlainList.mono {h h' : Heap} {a : Addr} {items : Array Value} (x : h.PlainList a items) (k : ∀ o, h.get? a = some o → h'.get? a = some o) : h'.PlainList a items := by
  obtain ⟨n, ho⟩ := x; exact ⟨n, k _ ho⟩

/-- a frozen value stays: all that is not bad stays -/
theorem Rep.mono {bad bad' : Addr → Prop} {h h' : Heap} {v : V} {val : Value} (r : Rep bad h v val)
    (hb : ∀ b, bad' b → bad b ∨ h.get? b = Option.none) (hk : ∀ b o, ¬ bad b → h.get? b = some o → h'.get? b = some o) (hl : ∀ l, v ≠ .loan l) : Rep bad' h' v val := by
  cases v with
  | list l =>
    obtain ⟨a, items, rfl, hn, x, y⟩ := r
    refine ⟨a, items, rfl, fun q => ?_, PlainList.mono x fun o e => hk a o hn e, y⟩
    rcases hb a q with z | z
    · exact hn z
    · obtain ⟨o, ho⟩ := x; rw [z] at ho; cases ho
  | arr l =>
    obtain ⟨a, items, rfl, hn, x, y⟩ := r
    refine ⟨a, items, rfl, fun q => ?_, IsList.mono x fun o e => hk a o hn e, y⟩
    rcases hb a q with z | z
    · exact hn z
    · obtain ⟨o, ho, _⟩ := x; rw [z] at ho; cases ho
  | tuple l =>
    obtain ⟨a, items, rfl, hn, x, y⟩ := r
    refine ⟨a, items, rfl, fun q => ?_, IsTup.mono x fun o e => hk a o hn e, y⟩
    rcases hb a q with z | z
    · exact hn z
    · obtain ⟨o, ho, _⟩ := x; rw [z] at ho; cases ho
  | range a b c =>
    obtain ⟨r, t, u, w, rfl, hn, x⟩ := r
    refine ⟨r, t, u, w, rfl, fun q => ?_, hk r _ hn x⟩
    rcases hb r q with z | z
    · exact hn z
    · have x' : h.get? r = _ := x
      rw [z] at x'; cases x'
  | loan l => exact absurd rfl (hl l)
  | _ => exact r

theorem Rep.keeps {bad : Addr → Prop} {h h' : Heap} {v : V} {val : Value} (r : Rep bad h v val) (hk : ∀ b o, h.get? b = some o → h'.get? b = some o) : Rep bad h' v val := by
  cases v with
  | loan l => obtain ⟨a, items, rfl, x, y⟩ := r; exact ⟨a, items, rfl, IsList.mono x fun o e => hk a o e, y⟩
  | list l => exact Rep.mono r (fun _ q => .inl q) (fun b o _ e => hk b o e) (by intro l e; cases e)
  | arr l => exact Rep.mono r (fun _ q => .inl q) (fun b o _ e => hk b o e) (by intro l e; cases e)
  | tuple l => exact Rep.mono r (fun _ q => .inl q) (fun b o _ e => hk b o e) (by intro l e; cases e)
  | range a b c => exact Rep.mono r (fun _ q => .inl q) (fun b o _ e => hk b o e) (by intro l e; cases e)
  | _ => exact r

theorem Kt.refl (G : Gl) (t : Bool) (s : Shared) : Kt G t s s := ⟨s.heap, s.toks, rfl, fun _ _ _ e => e⟩
theorem Kt.trans {G : Gl} {t : Bool} {s s' s'' : Shared} (x : Kt G t s s') (y : Kt G t s' s'') : Kt G t s s'' := by
  obtain ⟨h', tk, rfl, k⟩ := x
  obtain ⟨h'', tk', rfl, k'⟩ := y
  exact ⟨h'', tk', rfl, fun b o n e => k' b o n (k b o n e)⟩
theorem Kt.weak {G : Gl} {t : Bool} {s s' : Shared} (x : Kt G false s s') : Kt G t s s' := by
  obtain ⟨h', tk, rfl, k⟩ := x
  exact ⟨h', tk, rfl, fun b o _ e => k b o (by intro h; cases h) e⟩
theorem Kt.tok {G : Gl} {t : Bool} {s : Shared} (tk : Nat) : Kt G t s { s with toks := tk } := ⟨s.heap, tk, rfl, fun _ _ _ e => e⟩
theorem Kt.push {G : Gl} {t : Bool} {s : Shared} (o : Obj) (tk : Nat) : Kt G t s { s with heap := s.heap.push o, toks := tk } :=
  ⟨_, tk, rfl, fun _ _ _ e => Heap.get?_push_of_some _ e⟩
theorem Kt.of_keeps {G : Gl} {t : Bool} {s : Shared} {h' : Heap} {tk : Nat} (k : ∀ b o, s.heap.get? b = some o → h'.get? b = some o) : Kt G t s { s with heap := h', toks := tk } :=
  ⟨h', tk, rfl, fun b o _ e => k b o e⟩
theorem Kt.at {G : Gl} {t : Bool} {s s' : Shared} (x : Kt G t s s') {b : Addr} {o : Obj} (n : b ≠ G.tab) (e : s.heap.get? b = some o) : s'.heap.get? b = some o := by
  obtain ⟨h', tk, rfl, k⟩ := x; exact k b o (fun _ => n) e
theorem Kt.strict {G : Gl} {s s' : Shared} (x : Kt G false s s') : ∀ b o, s.heap.get? b = some o → s'.heap.get? b = some o := by
  obtain ⟨h', tk, rfl, k⟩ := x; exact fun b o e => k b o (by intro h; cases h) e

theorem fresh_none (h : Heap) : h.get? h.objs.size = Option.none := by
  cases e : h.get? h.objs.size with
  | none => rfl
  | some o => exact absurd (Heap.lt_size e) (Nat.lt_irrefl _)

theorem Gl.tabKt {G : Gl} {bad : Addr → Prop} {h h' : Heap} (T : G.TabOk bad h) (k : ∀ b o, h.get? b = some o → h'.get? b = some o) : G.TabOk bad h' :=
  G.tabKeep T (fun _ q => .inl q) fun b o _ e => k b o e

theorem RepVar.mono {D : Dyn} {ow : Nat → Option Addr} {h h' : Heap} {k : Nat} {v : V} {val : Value} (r : RepVar D ow h k v val)
    (hk : ∀ b o, (¬ Bad D ow b ∨ ow k = some b) → h.get? b = some o → h'.get? b = some o) : RepVar D ow h' k v val := by
  cases v with
  | own l => obtain ⟨a, items, rfl, e, x, y⟩ := r; exact ⟨a, items, rfl, e, PlainList.mono x fun o q => hk a o (.inr e) q, y⟩
  | ownA l => obtain ⟨a, items, rfl, e, x, y⟩ := r; exact ⟨a, items, rfl, e, IsList.mono x fun o q => hk a o (.inr e) q, y⟩
  | bound j => obtain ⟨q, a, rfl, e, n, x⟩ := r; exact ⟨q, a, rfl, e, n, hk q _ (.inl n) x⟩
  | loan l => exact r
  | arr l => exact Rep.mono (v := .arr l) r (fun _ q => .inl q) (fun b o n e => hk b o (.inl n) e) (by intro l e; cases e)
  | list l => exact Rep.mono (v := .list l) r (fun _ q => .inl q) (fun b o n e => hk b o (.inl n) e) (by intro l e; cases e)
  | tuple l => exact Rep.mono (v := .tuple l) r (fun _ q => .inl q) (fun b o n e => hk b o (.inl n) e) (by intro l e; cases e)
  | range a b c => exact Rep.mono (v := .range a b c) r (fun _ q => .inl q) (fun b o n e => hk b o (.inl n) e) (by intro l e; cases e)
  | _ => exact r

/-- the state's facts stay where the heap grows -/
theorem Rel.kt {G : Gl} {n : Nat} {F : Scope} {t : Bool} {D : Dyn} {ow : Nat → Option Addr} {σ : List V} {s s' : Shared} (O : D.Ok G n F) (R : Rel G D ow σ s) (K : Kt G t s s')
    (ht : s.toks ≤ s'.toks) (T : G.TabOk (Bad D ow) s'.heap) : Rel G D ow σ s' := by
  have tabLe : ∀ b, b ≠ G.tab → ∀ o, s.heap.get? b = some o → s'.heap.get? b = some o := fun b n o e => K.at n e
  have varKeep : ∀ k b o, (¬ Bad D ow b ∨ ow k = some b) → s.heap.get? b = some o → s'.heap.get? b = some o := by
    intro k b o h e
    refine tabLe b (fun q => ?_) o e
    rcases h with h | h
    · exact h (.inl (q ▸ O.mutT))
    · exact (R.own k b h).1 (q ▸ O.mutT)
  refine ⟨fun b o e => tabLe b (fun q => ?_) o (R.keep b o e), Nat.le_trans R.toks ht, T, fun b hb => ?_, ?_, ?_, fun k a e => ?_, R.inj⟩
  · rw [q, G.tabNo] at e; cases e
  · by_cases q : b = G.tab
    · subst q; exact G.tabLive T
    · obtain ⟨o, e⟩ := R.live b hb; exact ⟨o, tabLe b q o e⟩
  · obtain ⟨m, hn, hv⟩ := R.ns
    refine ⟨m, ?_, fun k x v h1 h2 h3 => ?_⟩
    · obtain ⟨o, es, ep, ho, r⟩ := hn; exact ⟨o, es, ep, tabLe _ O.LT o ho, r⟩
    · obtain ⟨val, e, r⟩ := hv k x v h1 h2 h3; exact ⟨val, e, r.mono (varKeep k)⟩
  · intro k x h1
    obtain ⟨c, vo, e1, ⟨o, ho, hd⟩, h⟩ := R.cells k x h1
    refine ⟨c, vo, e1, ⟨o, tabLe c (O.CT (x, c) (mem_of_lookup e1)) o ho, hd⟩, fun v h2 h3 => ?_⟩
    obtain ⟨val, e, r⟩ := h v h2 h3; exact ⟨val, e, r.mono (varKeep k)⟩
  · obtain ⟨h1, ⟨o, h2⟩, h3⟩ := R.own k a e
    exact ⟨h1, ⟨o, tabLe a (fun q => h1 (q ▸ O.mutT)) o h2⟩, h3⟩

theorem Rel.around {G : Gl} {n : Nat} {F : Scope} {D : Dyn} {ow : Nat → Option Addr} {σ : List V} {s : Shared} (O : D.Ok G n F) (R : Rel G D ow σ s) : Around0 G (Bad D ow) s where
  keep := R.keep
  toks := R.toks
  tab := R.tab
  live := fun b hb => by
    rcases hb with h | ⟨k, h⟩
    · exact R.live b h
    · exact (R.own k b h).2.1
  mutT := .inl O.mutT

section
variable {G : Gl} {n : Nat} {F : Scope} {t : Bool} {σ : List V}

/-- use of an expression in a walk: the token clock besides -/
theorem EP.go {e : Expr} {v : V} (h : EP G n F t e σ v) {D : Dyn} {ow : Nat → Option Addr} {s : Shared} {E : Value → Shared → Prop} {Q : Value → Shared → Prop} (O : D.Ok G n F) (R : Rel G D ow σ s)
    (hQ : ∀ val s', Rep (Bad D ow) s'.heap v val → Kt G t s s' → Rel G D ow σ s' → Q val s') : wpAny (model G.prog G.w) D.A (eval e D.env) Q E s :=
  wpAny_mono (wpAny_toks (h D ow s E O R)) (fun val s' x => hQ val s' x.2.1 x.2.2.1 (R.kt O x.2.2.1 x.1 x.2.2.2)) fun _ _ x => x.2
theorem ET.go {e : Expr} {b : Bool} (h : ET G n F t e σ b) {D : Dyn} {ow : Nat → Option Addr} {s : Shared} {E : Value → Shared → Prop} {Q : Bool → Shared → Prop} (O : D.Ok G n F) (R : Rel G D ow σ s)
    (hQ : ∀ s', Kt G t s s' → Rel G D ow σ s' → Q b s') : wpAny (model G.prog G.w) D.A (isTrue e D.env (eval e D.env)) Q E s :=
  wpAny_mono (wpAny_toks (h D ow s E O R)) (fun r s' x => by obtain ⟨h1, rfl, h2, h3⟩ := x; exact hQ s' h2 (R.kt O h2 h1 h3)) fun _ _ x => x.2
theorem EF.go {e : Expr} {l : List V} (h : EF G n F t e σ l) {D : Dyn} {ow : Nat → Option Addr} {s : Shared} {E : Value → Shared → Prop} {Q : Value → Shared → Prop} (O : D.Ok G n F) (R : Rel G D ow σ s)
    (hQ : ∀ a items s', s.heap.get? a = Option.none → s'.heap.PlainList a (List.toArray items) → Reps l items → Kt G t s s' → Rel G D ow σ s' → Q (.ref a) s') : wpAny (model G.prog G.w) D.A (eval e D.env) Q E s :=
  wpAny_mono (wpAny_toks (h D ow s E O R)) (fun val s' x => by obtain ⟨h1, ⟨a, items, rfl, p, q, r⟩, h2, h3⟩ := x; exact hQ a items s' p q r h2 (R.kt O h2 h1 h3)) fun _ _ x => x.2

theorem not_bad_of_none {D : Dyn} {ow : Nat → Option Addr} {s : Shared} (O : D.Ok G n F) (R : Rel G D ow σ s) {a : Addr} (h : s.heap.get? a = Option.none) : ¬ Bad D ow a := by
  intro hb
  obtain ⟨o, ho⟩ := (R.around O).live a hb
  rw [h] at ho; cases ho

theorem EF.ep {e : Expr} {l : List V} (h : EF G n F t e σ l) : EP G n F t e σ (.list l) := fun D ow s E O R =>
  wpAny_mono (h D ow s E O R) (fun val s' x => by
    obtain ⟨⟨a, items, rfl, p, q, r⟩, h2, h3⟩ := x
    exact ⟨⟨a, items, rfl, not_bad_of_none O R p, q, r⟩, h2, h3⟩) fun _ _ x => x
theorem EP.loan {e : Expr} {l : List V} (h : EP G n F t e σ (.list l)) : EP G n F t e σ (.loan l) := fun D ow s E O R =>
  wpAny_mono (h D ow s E O R) (fun val s' x => by
    obtain ⟨⟨a, items, rfl, p, q, r⟩, h2, h3⟩ := x
    exact ⟨⟨a, items, rfl, q.isList, r⟩, h2, h3⟩) fun _ _ x => x
theorem EP.loanA {e : Expr} {l : List V} (h : EP G n F t e σ (.arr l)) : EP G n F t e σ (.loan l) := fun D ow s E O R =>
  wpAny_mono (h D ow s E O R) (fun val s' x => by
    obtain ⟨⟨a, items, rfl, p, q, r⟩, h2, h3⟩ := x
    exact ⟨⟨a, items, rfl, q, r⟩, h2, h3⟩) fun _ _ x => x
theorem EP.weak {e : Expr} {v : V} (h : EP G n F false e σ v) : EP G n F t e σ v := fun D ow s E O R =>
  wpAny_mono (h D ow s E O R) (fun val s' x => ⟨x.1, x.2.1.weak, x.2.2⟩) fun _ _ x => x
theorem ET.weak {e : Expr} {b : Bool} (h : ET G n F false e σ b) : ET G n F t e σ b := fun D ow s E O R =>
  wpAny_mono (h D ow s E O R) (fun val s' x => ⟨x.1, x.2.1.weak, x.2.2⟩) fun _ _ x => x

/-- the usual end of a rule: the value, the growth -/
theorem ep_end {D : Dyn} {ow : Nat → Option Addr} {s s' : Shared} {v : V} {val : Value} (R : Rel G D ow σ s) (r : Rep (Bad D ow) s'.heap v val) (K : Kt G false s s') :
    Rep (Bad D ow) s'.heap v val ∧ Kt G t s s' ∧ G.TabOk (Bad D ow) s'.heap := ⟨r, K.weak, Gl.tabKt R.tab K.strict⟩
/-- .. behind what came before -/
theorem ep_end2 {D : Dyn} {ow : Nat → Option Addr} {s s₁ s' : Shared} {v : V} {val : Value} (K₁ : Kt G t s s₁) (R : Rel G D ow σ s₁) (r : Rep (Bad D ow) s'.heap v val) (K : Kt G false s₁ s') :
    Rep (Bad D ow) s'.heap v val ∧ Kt G t s s' ∧ G.TabOk (Bad D ow) s'.heap := ⟨r, K₁.trans K.weak, Gl.tabKt R.tab K.strict⟩
theorem et_end2 {D : Dyn} {ow : Nat → Option Addr} {s s₁ s' : Shared} {b : Bool} (K₁ : Kt G t s s₁) (R : Rel G D ow σ s₁) (K : Kt G false s₁ s') :
    b = b ∧ Kt G t s s' ∧ G.TabOk (Bad D ow) s'.heap := ⟨rfl, K₁.trans K.weak, Gl.tabKt R.tab K.strict⟩
end
noncomputable def V.plain : V → Bool
  | .unb | .own _ | .ownA _ | .bound _ | .loan _ => false
  | _ => true

/-- the place of a name in the frame's table -/
noncomputable def idx (F : Scope) (x : Str) : Option (Nat × NameKind) := go F.names 0
where
  go : List (Str × NameKind) → Nat → Option (Nat × NameKind)
    | [], _ => none
    | (y, k) :: r, i => if x == y then some (i, k) else go r (i + 1)

theorem idx_go {x : Str} : ∀ (l : List (Str × NameKind)) (i k : Nat) (kd : NameKind), idx.go x l i = some (k, kd) → ∃ j, k = i + j ∧ l[j]? = some (x, kd) ∧ l.lookup x = some kd
  | [], i, k, kd, h => by cases h
  | (y, q) :: r, i, k, kd, h => by
    unfold idx.go at h
    by_cases e : (x == y) = true
    · rw [if_pos e] at h
      cases h
      have := beq_iff_eq.mp e
      subst this
      exact ⟨0, rfl, rfl, by simp⟩
    · rw [if_neg e] at h
      obtain ⟨j, h1, h2, h3⟩ := idx_go r (i + 1) k kd h
      refine ⟨j + 1, by omega, by simpa using h2, ?_⟩
      rw [List.lookup_cons]
      have e' : (x == y) = false := by simpa using e
      rw [e']; exact h3
theorem idx_at {F : Scope} {x : Str} {k : Nat} {kd : NameKind} (h : idx F x = some (k, kd)) : F.names[k]? = some (x, kd) ∧ F.names.lookup x = some kd := by
  obtain ⟨j, h1, h2, h3⟩ := idx_go F.names 0 k kd h
  have : k = j := by omega
  subst this
  exact ⟨h2, h3⟩

theorem RepVar.rep {D : Dyn} {ow : Nat → Option Addr} {h : Heap} {k : Nat} {v : V} {val : Value} (r : RepVar D ow h k v val) (hp : v.plain = true) : Rep (Bad D ow) h v val := by
  cases v <;> first | exact r | cases hp

section
variable {G : Gl} {n : Nat} {F : Scope} {t : Bool} {σ : List V} {pos : Pos}

theorem e_none {k : Nat} : EP G n F t (.Constant .none k pos) σ .none := fun D ow s E O R => wpAny_Constant_none (ep_end R rfl (Kt.refl ..))
theorem e_bool {b : Bool} {k : Nat} : EP G n F t (.Constant (.bool b) k pos) σ (.bool b) := fun D ow s E O R => wpAny_Constant_bool (ep_end R rfl (Kt.refl ..))
theorem e_int {i : Int} {k : Nat} : EP G n F t (.Constant (.int i) k pos) σ (.int i) := fun D ow s E O R => wpAny_Constant_int (ep_end R ⟨_, rfl⟩ (Kt.tok _))
theorem e_str {x : Str} {k : Nat} : EP G n F t (.Constant (.str x) k pos) σ (.str x) := fun D ow s E O R => wpAny_Constant_str (ep_end R ⟨_, rfl⟩ (Kt.tok _))

theorem wp_name {D : Dyn} {ow : Nat → Option Addr} {s : Shared} {E : Value → Shared → Prop} {x : Str} {k : Nat} {kd : NameKind} {v : V} {Q : Value → Shared → Prop} (O : D.Ok G n F) (R : Rel G D ow σ s)
    (hk : idx F x = some (k, kd)) (hkd : (kd == .local || kd == .cell) = true) (hv : σ[k]? = some v) (hu : v ≠ .unb)
    (h : ∀ val, RepVar D ow s.heap k v val → Q val s) : wpAny (model G.prog G.w) D.A (loadName D.env x) Q E s := by
  have hs := O.scope
  obtain ⟨h1, h2⟩ := idx_at hk
  have hkind : D.env.scope.kind = .function := by rw [hs]; exact O.kind
  cases kd with
  | «local» =>
    obtain ⟨m, hn, hm⟩ := R.ns
    obtain ⟨val, e, r⟩ := hm k x v (by rw [hs]; exact h1) hv hu
    exact wpAny_loadName_local hkind (by unfold Env.kindOf; rw [hs]; exact h2) hn e (h val r)
  | cell =>
    obtain ⟨c, vo, e1, hc, hm⟩ := R.cells k x (by rw [hs]; exact h1)
    obtain ⟨val, e, r⟩ := hm v hv hu
    subst e
    exact wpAny_loadName_cell hkind (by unfold Env.kindOf; rw [hs]; exact h2) e1 hc (h val r)
  | _ => cases hkd

theorem e_var {x : Str} {k : Nat} {kd : NameKind} {v : V} (hk : idx F x = some (k, kd)) (hkd : (kd == .local || kd == .cell) = true) (hv : σ[k]? = some v) (hp : v.plain = true)
    (hd : (x == ("__debug__" : Str)) = false) : EP G n F t (.Name x pos) σ v := fun D ow s E O R =>
  wpAny_Name (wp_name O R hk hkd hv (by intro e; subst e; cases hp) fun val r => ep_end R (r.rep hp) (Kt.refl ..)) hd
theorem e_own {x : Str} {k : Nat} {kd : NameKind} {l : List V} (hk : idx F x = some (k, kd)) (hkd : (kd == .local || kd == .cell) = true) (hv : σ[k]? = some (.own l))
    (hd : (x == ("__debug__" : Str)) = false) : EP G n F t (.Name x pos) σ (.loan l) := fun D ow s E O R =>
  wpAny_Name (wp_name O R hk hkd hv (by intro e; cases e) fun val r => by
    obtain ⟨a, items, rfl, _, x, y⟩ := r
    exact ep_end R ⟨a, items, rfl, x.isList, y⟩ (Kt.refl ..)) hd
theorem e_ownA {x : Str} {k : Nat} {kd : NameKind} {l : List V} (hk : idx F x = some (k, kd)) (hkd : (kd == .local || kd == .cell) = true) (hv : σ[k]? = some (.ownA l))
    (hd : (x == ("__debug__" : Str)) = false) : EP G n F t (.Name x pos) σ (.loan l) := fun D ow s E O R =>
  wpAny_Name (wp_name O R hk hkd hv (by intro e; cases e) fun val r => by
    obtain ⟨a, items, rfl, _, x, y⟩ := r
    exact ep_end R ⟨a, items, rfl, x, y⟩ (Kt.refl ..)) hd
theorem e_global {x : Str} {v : Value} (hk : F.names.lookup x = some .globalImplicit) (hv : G.mg x = some v) (hd : (x == ("__debug__" : Str)) = false) : EP G n F t (.Name x pos) σ (.raw v) := fun D ow s E O R => by
  have hs := O.scope
  refine Name_function_global (by rw [hs]; exact O.kind) (by unfold Env.kindOf; rw [hs]; exact hk) (loadGlobal_global (mg := G.mg) ?_ hv (ep_end R rfl (Kt.refl ..))) hd
  rw [O.glob]; exact G.g.keeps R.keep
theorem e_builtin {x : Str} {v : Value} (hk : F.names.lookup x = some .globalImplicit) (hg : G.mg x = none) (hv : bootBuiltins x = some v) (hn : x ≠ ("__name__" : Str)) (hd : (x == ("__debug__" : Str)) = false) :
    EP G n F t (.Name x pos) σ (.raw v) := fun D ow s E O R => by
  have hs := O.scope
  refine Name_function_global (by rw [hs]; exact O.kind) (by unfold Env.kindOf; rw [hs]; exact hk) (loadGlobal_builtin (mg := G.mg) (mb := G.mb) ?_ hg ?_ (by rw [G.boot x hn]; exact hv) (ep_end R rfl (Kt.refl ..))) hd
  · rw [O.glob]; exact G.g.keeps R.keep
  · rw [O.blt]; exact G.b.keeps R.keep

/-! operators -/
variable {l r : Expr}
theorem e_add_str {x y : Str} (hl : EP G n F t l σ (.str x)) (hr : EP G n F t r σ (.str y)) (hz : x.length + y.length ≤ 16777216) : EP G n F t (.BinOp l .Add r pos) σ (.str (x ++ y)) := fun D ow s E O R => by
  refine wpAny_BinOp (hl.go O R fun a s1 ra K1 R1 => hr.go O R1 fun b s2 rb K2 R2 => ?_)
  obtain ⟨t1, rfl⟩ := ra; obtain ⟨t2, rfl⟩ := rb
  exact add_str (fun t' tk => ep_end2 (K1.trans K2) R2 ⟨t', rfl⟩ (Kt.tok tk)) (by rw [sizeLine_eq]; exact hz)
theorem e_add {a b : Int} (hl : EP G n F t l σ (.int a)) (hr : EP G n F t r σ (.int b)) : EP G n F t (.BinOp l .Add r pos) σ (.int (a + b)) := fun D ow s E O R => by
  refine wpAny_BinOp (hl.go O R fun a s1 ra K1 R1 => hr.go O R1 fun b s2 rb K2 R2 => ?_)
  obtain ⟨t1, rfl⟩ := ra; obtain ⟨t2, rfl⟩ := rb
  exact PyProof.Rows.add_int (ep_end2 (K1.trans K2) R2 ⟨_, rfl⟩ (Kt.tok _))
theorem e_sub {a b : Int} (hl : EP G n F t l σ (.int a)) (hr : EP G n F t r σ (.int b)) : EP G n F t (.BinOp l .Sub r pos) σ (.int (a - b)) := fun D ow s E O R => by
  refine wpAny_BinOp (hl.go O R fun a s1 ra K1 R1 => hr.go O R1 fun b s2 rb K2 R2 => ?_)
  obtain ⟨t1, rfl⟩ := ra; obtain ⟨t2, rfl⟩ := rb
  exact PyProof.Rows.sub_int (ep_end2 (K1.trans K2) R2 ⟨_, rfl⟩ (Kt.tok _))
theorem e_mod {a b : Int} (hl : EP G n F t l σ (.int a)) (hr : EP G n F t r σ (.int b)) (hb : b ≠ 0) : EP G n F t (.BinOp l .Mod r pos) σ (.int (a.fmod b)) := fun D ow s E O R => by
  refine wpAny_BinOp (hl.go O R fun a s1 ra K1 R1 => hr.go O R1 fun b s2 rb K2 R2 => ?_)
  obtain ⟨t1, rfl⟩ := ra; obtain ⟨t2, rfl⟩ := rb
  exact PyProof.Rows.mod_int hb (ep_end2 (K1.trans K2) R2 ⟨_, rfl⟩ (Kt.tok _))
theorem e_floordiv {a b : Int} (hl : EP G n F t l σ (.int a)) (hr : EP G n F t r σ (.int b)) (hb : b ≠ 0) (hp : Builtin.divisionGoesByPylong a b = false) : EP G n F t (.BinOp l .FloorDiv r pos) σ (.int (a.fdiv b)) := fun D ow s E O R => by
  refine wpAny_BinOp (hl.go O R fun a s1 ra K1 R1 => hr.go O R1 fun b s2 rb K2 R2 => ?_)
  obtain ⟨t1, rfl⟩ := ra; obtain ⟨t2, rfl⟩ := rb
  exact PyProof.Rows.floordiv_int hb (ep_end2 (K1.trans K2) R2 ⟨_, rfl⟩ (Kt.tok _)) (.inl hp)

theorem Reps.append : ∀ {l l' : List V} {vs vs' : List Value}, Reps l vs → Reps l' vs' → Reps (l ++ l') (vs ++ vs')
  | [], _, [], _, _, h => h
  | [], _, _ :: _, _, h, _ => h.elim
  | _ :: _, _, [], _, h, _ => h.elim
  | _ :: _, _, _ :: _, _, h, h' => ⟨h.1, h.2.append h'⟩
theorem Reps.length : ∀ {l : List V} {vs : List Value}, Reps l vs → vs.length = l.length
  | [], [], _ => rfl
  | [], _ :: _, h => h.elim
  | _ :: _, [], h => h.elim
  | _ :: _, _ :: _, h => by rw [List.length_cons, List.length_cons, h.2.length]
theorem Reps.get : ∀ {l : List V} {vs : List Value} {i : Nat} {v : V}, Reps l vs → l[i]? = some v → ∃ val, vs[i]? = some val ∧ RepA v val
  | [], _, _, _, _, h => by simp at h
  | _ :: _, [], _, _, h, _ => h.elim
  | a :: l, v :: vs, 0, w, h, e => by simp at e; subst e; exact ⟨v, rfl, h.1⟩
  | a :: l, v :: vs, i + 1, w, h, e => by simp at e; obtain ⟨val, h1, h2⟩ := Reps.get h.2 e; exact ⟨val, by simpa using h1, h2⟩
theorem Reps.getV : ∀ {l : List V} {vs : List Value} {i : Nat} {val : Value}, Reps l vs → vs[i]? = some val → ∃ v, l[i]? = some v ∧ RepA v val
  | _, [], _, _, _, h => by simp at h
  | [], _ :: _, _, _, h, _ => h.elim
  | a :: l, v :: vs, 0, w, h, e => by simp at e; subst e; exact ⟨a, rfl, h.1⟩
  | a :: l, v :: vs, i + 1, w, h, e => by simp at e; obtain ⟨val, h1, h2⟩ := Reps.getV h.2 e; exact ⟨val, by simpa using h1, h2⟩
theorem Reps.take : ∀ {l : List V} {vs : List Value} (i : Nat), Reps l vs → Reps (l.take i) (vs.take i)
  | _, _, 0, _ => by simp [Reps]
  | [], [], _ + 1, _ => by simp [Reps]
  | [], _ :: _, _, h => h.elim
  | _ :: _, [], _, h => h.elim
  | _ :: _, _ :: _, i + 1, h => ⟨h.1, h.2.take i⟩
theorem Reps.drop : ∀ {l : List V} {vs : List Value} (i : Nat), Reps l vs → Reps (l.drop i) (vs.drop i)
  | _, _, 0, h => by simpa using h
  | [], [], _ + 1, _ => by simp [Reps]
  | [], _ :: _, _, h => h.elim
  | _ :: _, [], _, h => h.elim
  | _ :: _, _ :: _, i + 1, h => h.2.drop i

theorem fresh_of {D : Dyn} {ow : Nat → Option Addr} {s s2 : Shared} (K : Kt G t s s2) (R2 : Rel G D ow σ s2) : s.heap.get? s2.heap.objs.size = none := by
  cases e : s.heap.get? s2.heap.objs.size with
  | none => rfl
  | some o =>
    exfalso
    by_cases h : s2.heap.objs.size = G.tab
    · obtain ⟨o', ho'⟩ := G.tabLive R2.tab
      rw [← h, fresh_none] at ho'; cases ho'
    · have := K.at h e
      rw [fresh_none] at this; cases this
/-- a new list at the end of an expression -/
theorem f_end {D : Dyn} {ow : Nat → Option Addr} {s s2 : Shared} {l : List V} {items : List Value} (tk : Nat) (K : Kt G t s s2) (R2 : Rel G D ow σ s2) (q : Reps l items) :
    (∃ a its, (Value.ref s2.heap.objs.size) = .ref a ∧ s.heap.get? a = none ∧ (s2.heap.push { cls := .type "list", data := .seq items.toArray }).PlainList a (List.toArray its) ∧ Reps l its) ∧
      Kt G t s { s2 with heap := s2.heap.push { cls := .type "list", data := .seq items.toArray }, toks := tk } ∧ G.TabOk (Bad D ow) (s2.heap.push { cls := .type "list", data := .seq items.toArray }) :=
  ⟨⟨_, items, rfl, fresh_of K R2, ⟨0, Heap.get?_push_size _ rfl⟩, q⟩, K.trans ((Kt.push _ _).weak), Gl.tabKt R2.tab fun _ _ e => Heap.get?_push_of_some _ e⟩
theorem f_add_list {xs ys : List V} (hl : EP G n F t l σ (.list xs)) (hr : EP G n F t r σ (.list ys)) (hz : xs.length + ys.length ≤ 16777216) : EF G n F t (.BinOp l .Add r pos) σ (xs ++ ys) := fun D ow s E O R => by
  refine wpAny_BinOp (hl.go O R fun a s1 ra K1 R1 => hr.go O R1 fun b s2 rb K2 R2 => ?_)
  obtain ⟨a, its, rfl, nb, p, q⟩ := ra; obtain ⟨b, its', rfl, nb', p', q'⟩ := rb
  have p2 : s2.heap.PlainList a its.toArray := PlainList.mono p fun o e => K2.at (fun h => nb (h ▸ .inl O.mutT)) e
  obtain ⟨k, hk⟩ := p2
  obtain ⟨k', hk'⟩ := p'
  have fr := fresh_of (K1.trans K2) R2
  refine PySem.P.add_list (l := a) (b := b) (items := its.toArray) (items2 := its'.toArray) hk hk' ?_ (by rw [sizeLine_eq]; simp [q.length, q'.length]; omega)
  have := f_end s2.toks (K1.trans K2) R2 (q.append q')
  simpa using this

/-! comparisons, as values -/
theorem e_eq {a b : Int} (hl : EP G n F t l σ (.int a)) (hr : EP G n F t r σ (.int b)) (hm : behindInMarks .Eq r = false) : EP G n F t (.Compare l [.Eq] [r] pos) σ (.bool (a == b)) := fun D ow s E O R => by
  refine wpAny_Compare1 (hl.go O R fun a s1 ra K1 R1 => hr.go O R1 fun b s2 rb K2 R2 => ?_) hm
  obtain ⟨t1, rfl⟩ := ra; obtain ⟨t2, rfl⟩ := rb
  exact PyProof.Rows.eq_int (ep_end2 (K1.trans K2) R2 rfl (Kt.refl ..))
theorem e_ne {a b : Int} (hl : EP G n F t l σ (.int a)) (hr : EP G n F t r σ (.int b)) (hm : behindInMarks .NotEq r = false) : EP G n F t (.Compare l [.NotEq] [r] pos) σ (.bool (a != b)) := fun D ow s E O R => by
  refine wpAny_Compare1 (hl.go O R fun a s1 ra K1 R1 => hr.go O R1 fun b s2 rb K2 R2 => ?_) hm
  obtain ⟨t1, rfl⟩ := ra; obtain ⟨t2, rfl⟩ := rb
  exact PyProof.Rows.ne_int (ep_end2 (K1.trans K2) R2 rfl (Kt.refl ..))
theorem e_lt {a b : Int} (hl : EP G n F t l σ (.int a)) (hr : EP G n F t r σ (.int b)) (hm : behindInMarks .Lt r = false) : EP G n F t (.Compare l [.Lt] [r] pos) σ (.bool (decide (a < b))) := fun D ow s E O R => by
  refine wpAny_Compare1 (hl.go O R fun a s1 ra K1 R1 => hr.go O R1 fun b s2 rb K2 R2 => ?_) hm
  obtain ⟨t1, rfl⟩ := ra; obtain ⟨t2, rfl⟩ := rb
  exact PyProof.Rows.lt_int (ep_end2 (K1.trans K2) R2 rfl (Kt.refl ..))
theorem e_le {a b : Int} (hl : EP G n F t l σ (.int a)) (hr : EP G n F t r σ (.int b)) (hm : behindInMarks .LtE r = false) : EP G n F t (.Compare l [.LtE] [r] pos) σ (.bool (decide (a ≤ b))) := fun D ow s E O R => by
  refine wpAny_Compare1 (hl.go O R fun a s1 ra K1 R1 => hr.go O R1 fun b s2 rb K2 R2 => ?_) hm
  obtain ⟨t1, rfl⟩ := ra; obtain ⟨t2, rfl⟩ := rb
  exact PyProof.Rows.le_int (ep_end2 (K1.trans K2) R2 rfl (Kt.refl ..))
theorem e_gt {a b : Int} (hl : EP G n F t l σ (.int a)) (hr : EP G n F t r σ (.int b)) (hm : behindInMarks .Gt r = false) : EP G n F t (.Compare l [.Gt] [r] pos) σ (.bool (decide (b < a))) := fun D ow s E O R => by
  refine wpAny_Compare1 (hl.go O R fun a s1 ra K1 R1 => hr.go O R1 fun b s2 rb K2 R2 => ?_) hm
  obtain ⟨t1, rfl⟩ := ra; obtain ⟨t2, rfl⟩ := rb
  exact PyProof.Rows.gt_int (ep_end2 (K1.trans K2) R2 rfl (Kt.refl ..))
theorem e_ge {a b : Int} (hl : EP G n F t l σ (.int a)) (hr : EP G n F t r σ (.int b)) (hm : behindInMarks .GtE r = false) : EP G n F t (.Compare l [.GtE] [r] pos) σ (.bool (decide (b ≤ a))) := fun D ow s E O R => by
  refine wpAny_Compare1 (hl.go O R fun a s1 ra K1 R1 => hr.go O R1 fun b s2 rb K2 R2 => ?_) hm
  obtain ⟨t1, rfl⟩ := ra; obtain ⟨t2, rfl⟩ := rb
  exact PyProof.Rows.ge_int (ep_end2 (K1.trans K2) R2 rfl (Kt.refl ..))
theorem e_eq_str {x y : Str} (hl : EP G n F t l σ (.str x)) (hr : EP G n F t r σ (.str y)) (hm : behindInMarks .Eq r = false) : EP G n F t (.Compare l [.Eq] [r] pos) σ (.bool (x == y)) := fun D ow s E O R => by
  refine wpAny_Compare1 (hl.go O R fun a s1 ra K1 R1 => hr.go O R1 fun b s2 rb K2 R2 => ?_) hm
  obtain ⟨t1, rfl⟩ := ra; obtain ⟨t2, rfl⟩ := rb
  exact PyProof.Rows.eq_str (ep_end2 (K1.trans K2) R2 rfl (Kt.refl ..))
theorem e_ne_str {x y : Str} (hl : EP G n F t l σ (.str x)) (hr : EP G n F t r σ (.str y)) (hm : behindInMarks .NotEq r = false) : EP G n F t (.Compare l [.NotEq] [r] pos) σ (.bool (x != y)) := fun D ow s E O R => by
  refine wpAny_Compare1 (hl.go O R fun a s1 ra K1 R1 => hr.go O R1 fun b s2 rb K2 R2 => ?_) hm
  obtain ⟨t1, rfl⟩ := ra; obtain ⟨t2, rfl⟩ := rb
  exact PyProof.Rows.ne_str (ep_end2 (K1.trans K2) R2 rfl (Kt.refl ..))
theorem e_in_str {x y : Str} (hl : EP G n F t l σ (.str y)) (hr : EP G n F t r σ (.str x)) (hm : behindInMarks .In r = false) : EP G n F t (.Compare l [.In] [r] pos) σ (.bool (Txt.contains x y)) := fun D ow s E O R => by
  refine wpAny_Compare1 (hl.go O R fun a s1 ra K1 R1 => hr.go O R1 fun b s2 rb K2 R2 => ?_) hm
  obtain ⟨t1, rfl⟩ := ra; obtain ⟨t2, rfl⟩ := rb
  exact SB.contains (ep_end2 (K1.trans K2) R2 rfl (Kt.refl ..))
theorem e_notin_str {x y : Str} (hl : EP G n F t l σ (.str y)) (hr : EP G n F t r σ (.str x)) (hm : behindInMarks .NotIn r = false) : EP G n F t (.Compare l [.NotIn] [r] pos) σ (.bool (!Txt.contains x y)) := fun D ow s E O R => by
  refine wpAny_Compare1 (hl.go O R fun a s1 ra K1 R1 => hr.go O R1 fun b s2 rb K2 R2 => ?_) hm
  obtain ⟨t1, rfl⟩ := ra; obtain ⟨t2, rfl⟩ := rb
  exact SB.notContains (ep_end2 (K1.trans K2) R2 rfl (Kt.refl ..))

/-! tests -/
theorem t_cmp {op : CmpOp} {b : Bool} (h : EP G n F t (.Compare l [op] [r] pos) σ (.bool b)) (hm : behindInMarks op r = false) : ET G n F t (.Compare l [op] [r] pos) σ b := fun D ow s E O R => by
  have h1 := h D ow s E O R
  have e1 := eval_Compare1 D.env l op r pos
  have e2 : isTrue (.Compare l [op] [r] pos) D.env (eval (.Compare l [op] [r] pos) D.env) = (eval (.Compare l [op] [r] pos) D.env >>= fun c => holding [c] (truthy c)) := by
    rw [isTrue_Compare1, e1]
    simp only [bind_assoc]
  rw [e2]
  refine wpAny_bind (wpAny_mono h1 (fun v s' x => ?_) fun _ _ x => x)
  obtain ⟨rfl, x⟩ := x
  exact wpAny_holding (wpAny_truthy_bool ⟨rfl, x⟩)
theorem t_not {x : Expr} {b : Bool} (h : ET G n F t x σ b) : ET G n F t (.UnaryOp .Not x pos) σ (!b) := fun D ow s E O R =>
  wpAny_isTrue_Not (h.go O R fun s' K R' => ⟨rfl, K, R'.tab⟩)
theorem t_or1 {x y : Expr} (h : ET G n F t x σ true) : ET G n F t (.BoolOp .Or [x, y] pos) σ true := fun D ow s E O R =>
  wpAny_isTrue_BoolOp (wpAny_allTrue_Or_cons (h.go O R fun s' K R' => by rw [if_pos rfl]; exact ⟨rfl, K, R'.tab⟩))
theorem t_or2 {x y : Expr} {b : Bool} (h : ET G n F t x σ false) (h2 : ET G n F t y σ b) : ET G n F t (.BoolOp .Or [x, y] pos) σ b := fun D ow s E O R =>
  wpAny_isTrue_BoolOp (wpAny_allTrue_Or_cons (h.go O R fun s' K R' => by
    rw [if_neg Bool.false_ne_true]
    refine wpAny_allTrue_Or_cons (h2.go O R' fun s'' K' R'' => ?_)
    cases b
    · rw [if_neg Bool.false_ne_true]; exact wpAny_allTrue_Or_nil ⟨rfl, K.trans K', R''.tab⟩
    · rw [if_pos rfl]; exact ⟨rfl, K.trans K', R''.tab⟩))
theorem t_and1 {x y : Expr} (h : ET G n F t x σ false) : ET G n F t (.BoolOp .And [x, y] pos) σ false := fun D ow s E O R =>
  wpAny_isTrue_BoolOp (wpAny_allTrue_And_cons (h.go O R fun s' K R' => by rw [if_neg Bool.false_ne_true]; exact ⟨rfl, K, R'.tab⟩))
theorem t_and2 {x y : Expr} {b : Bool} (h : ET G n F t x σ true) (h2 : ET G n F t y σ b) : ET G n F t (.BoolOp .And [x, y] pos) σ b := fun D ow s E O R =>
  wpAny_isTrue_BoolOp (wpAny_allTrue_And_cons (h.go O R fun s' K R' => by
    rw [if_pos rfl]
    refine wpAny_allTrue_And_cons (h2.go O R' fun s'' K' R'' => ?_)
    cases b
    · rw [if_neg Bool.false_ne_true]; exact ⟨rfl, K.trans K', R''.tab⟩
    · rw [if_pos rfl]; exact wpAny_allTrue_And_nil ⟨rfl, K.trans K', R''.tab⟩))
end
section
variable {G : Gl} {n : Nat} {F : Scope} {t : Bool} {σ : List V} {pos : Pos}

/-! chains of and, or -/
noncomputable def TL (G : Gl) (n : Nat) (F : Scope) (t : Bool) (op : BoolOp) (es : List Expr) (σ : List V) (b : Bool) : Prop :=
  ∀ D ow s E, D.Ok G n F → Rel G D ow σ s → wpAny (model G.prog G.w) D.A (allTrue op es D.env) (fun r s' => r = b ∧ Kt G t s s' ∧ G.TabOk (Bad D ow) s'.heap) E s
theorem TL.go {op : BoolOp} {es : List Expr} {b : Bool} (h : TL G n F t op es σ b) {D : Dyn} {ow : Nat → Option Addr} {s : Shared} {E : Value → Shared → Prop} {Q : Bool → Shared → Prop} (O : D.Ok G n F) (R : Rel G D ow σ s)
    (hQ : ∀ s', Kt G t s s' → Rel G D ow σ s' → Q b s') : wpAny (model G.prog G.w) D.A (allTrue op es D.env) Q E s :=
  wpAny_mono (wpAny_toks (h D ow s E O R)) (fun r s' x => by obtain ⟨h1, rfl, h2, h3⟩ := x; exact hQ s' h2 (R.kt O h2 h1 h3)) fun _ _ x => x.2
theorem tl_or_nil : TL G n F t .Or [] σ false := fun D ow s E O R => wpAny_allTrue_Or_nil ⟨rfl, Kt.refl .., R.tab⟩
theorem tl_and_nil : TL G n F t .And [] σ true := fun D ow s E O R => wpAny_allTrue_And_nil ⟨rfl, Kt.refl .., R.tab⟩
theorem tl_or_hit {x : Expr} {es : List Expr} (h : ET G n F t x σ true) : TL G n F t .Or (x :: es) σ true := fun D ow s E O R =>
  wpAny_allTrue_Or_cons (h.go O R fun s' K R' => by rw [if_pos rfl]; exact ⟨rfl, K, R'.tab⟩)
theorem tl_or_miss {x : Expr} {es : List Expr} {b : Bool} (h : ET G n F t x σ false) (h2 : TL G n F t .Or es σ b) : TL G n F t .Or (x :: es) σ b := fun D ow s E O R =>
  wpAny_allTrue_Or_cons (h.go O R fun s' K R' => by rw [if_neg Bool.false_ne_true]; exact h2.go O R' fun s'' K' R'' => ⟨rfl, K.trans K', R''.tab⟩)
theorem tl_and_miss {x : Expr} {es : List Expr} (h : ET G n F t x σ false) : TL G n F t .And (x :: es) σ false := fun D ow s E O R =>
  wpAny_allTrue_And_cons (h.go O R fun s' K R' => by rw [if_neg Bool.false_ne_true]; exact ⟨rfl, K, R'.tab⟩)
theorem tl_and_hit {x : Expr} {es : List Expr} {b : Bool} (h : ET G n F t x σ true) (h2 : TL G n F t .And es σ b) : TL G n F t .And (x :: es) σ b := fun D ow s E O R =>
  wpAny_allTrue_And_cons (h.go O R fun s' K R' => by rw [if_pos rfl]; exact h2.go O R' fun s'' K' R'' => ⟨rfl, K.trans K', R''.tab⟩)
theorem t_bool {op : BoolOp} {es : List Expr} {b : Bool} (h : TL G n F t op es σ b) : ET G n F t (.BoolOp op es pos) σ b := fun D ow s E O R => wpAny_isTrue_BoolOp (h D ow s E O R)
/-- both at once: total forms -/
theorem tl_or {x : Expr} {es : List Expr} {a b : Bool} (h : ET G n F t x σ a) (h2 : a = false → TL G n F t .Or es σ b) : TL G n F t .Or (x :: es) σ (a || b) := by
  cases a
  · exact tl_or_miss h (h2 rfl)
  · exact tl_or_hit h
theorem tl_and {x : Expr} {es : List Expr} {a b : Bool} (h : ET G n F t x σ a) (h2 : a = true → TL G n F t .And es σ b) : TL G n F t .And (x :: es) σ (a && b) := by
  cases a
  · exact tl_and_miss h
  · exact tl_and_hit h (h2 rfl)

/-! truth of a value -/
noncomputable def IsVal (e : Expr) : Prop := ∀ env whole, isTrue e env whole = (do let v ← whole; standAt e.pos; holding [v] (truthy v))
theorem t_str {e : Expr} {x : Str} (h : EP G n F t e σ (.str x)) (he : IsVal e) (hz : x.length ≤ 16777216) : ET G n F t e σ (x.length != 0) := fun D ow s E O R => by
  refine wpAny_isTrue_value (h.go O R fun a s1 ra K1 R1 => ?_) (he _ _)
  obtain ⟨t1, rfl⟩ := ra
  refine PySem.P.truthy_str (by omega) ?_
  have e1 : ((x.length : Int) != 0) = (x.length != 0) := by
    rw [Bool.eq_iff_iff]; simp
  exact ⟨e1, K1.trans (Kt.tok _), R1.tab⟩
theorem t_loan {e : Expr} {l : List V} (h : EP G n F t e σ (.loan l)) (he : IsVal e) (hz : l.length ≤ 16777216) : ET G n F t e σ (!l.isEmpty) := fun D ow s E O R => by
  refine wpAny_isTrue_value (h.go O R fun a s1 ra K1 R1 => ?_) (he _ _)
  obtain ⟨a, items, rfl, p, q⟩ := ra
  refine wpAny_truthy_list p (by rw [List.size_toArray, q.length]; omega) ?_
  refine ⟨?_, K1.trans (Kt.tok _), R1.tab⟩
  have := q.length
  cases items <;> cases l <;> simp at this ⊢
theorem t_boolv {e : Expr} {b : Bool} (h : EP G n F t e σ (.bool b)) (he : IsVal e) : ET G n F t e σ b := fun D ow s E O R => by
  refine wpAny_isTrue_value (h.go O R fun a s1 ra K1 R1 => ?_) (he _ _)
  have ra' : a = .bool b := ra
  subst ra'
  exact wpAny_truthy_bool ⟨rfl, K1, R1.tab⟩

/-! values of and, or -/
theorem e_and {x y : Expr} {a b : Bool} (h : EP G n F t x σ (.bool a)) (h2 : a = true → EP G n F t y σ (.bool b)) : EP G n F t (.BoolOp .And [x, y] pos) σ (.bool (a && b)) := fun D ow s E O R => by
  refine wpAny_And2 (h.go O R fun v s1 ra K1 R1 => ?_)
  have ra' : v = .bool a := ra
  subst ra'
  refine wpAny_truthy_bool ?_
  cases a
  · rw [if_neg Bool.false_ne_true]; exact ⟨rfl, K1, R1.tab⟩
  · rw [if_pos rfl]; exact (h2 rfl).go O R1 fun v s2 rv K2 R2 => ⟨rv, K1.trans K2, R2.tab⟩
theorem e_or_str {x y : Expr} {p q : Str} (h : EP G n F t x σ (.str p)) (h2 : p.length = 0 → EP G n F t y σ (.str q)) (hz : p.length ≤ 16777216) :
    EP G n F t (.BoolOp .Or [x, y] pos) σ (.str (if p.length = 0 then q else p)) := fun D ow s E O R => by
  refine wpAny_Or2 (h.go O R fun v s1 ra K1 R1 => ?_)
  obtain ⟨t1, rfl⟩ := ra
  refine PySem.P.truthy_str (by omega) ?_
  have R1' : Rel G D ow σ { s1 with toks := s1.toks + 1 + 1 } := R1.kt O (Kt.tok (t := t) _) (by show s1.toks ≤ s1.toks + 1 + 1; omega) R1.tab
  by_cases e : p.length = 0
  · have e1 : ((p.length : Int) != 0) = false := by simp [e]
    rw [e1, if_neg Bool.false_ne_true, if_pos e]
    exact (h2 e).go O R1' fun v s2 rv K2 R2 => ⟨rv, (K1.trans (Kt.tok _)).trans K2, R2.tab⟩
  · have e1 : ((p.length : Int) != 0) = true := by simp [e]
    rw [e1, if_pos rfl, if_neg e]
    exact ⟨⟨_, rfl⟩, K1.trans (Kt.tok _), R1.tab⟩
theorem e_if {x y z : Expr} {b : Bool} {v : V} (h : ET G n F t x σ b) (h1 : b = true → EP G n F t y σ v) (h2 : b = false → EP G n F t z σ v) : EP G n F t (.IfExp x y z pos) σ v := fun D ow s E O R => by
  refine wpAny_IfExp (h.go O R fun s1 K1 R1 => ?_)
  cases b
  · rw [if_neg Bool.false_ne_true]; exact (h2 rfl).go O R1 fun v s2 rv K2 R2 => ⟨rv, K1.trans K2, R2.tab⟩
  · rw [if_pos rfl]; exact (h1 rfl).go O R1 fun v s2 rv K2 R2 => ⟨rv, K1.trans K2, R2.tab⟩
theorem e_neg {x : Expr} {a : Int} (h : EP G n F t x σ (.int a)) : EP G n F t (.UnaryOp .USub x pos) σ (.int (-a)) := fun D ow s E O R => by
  refine wpAny_UnaryOp (h.go O R fun v s1 ra K1 R1 => ?_)
  obtain ⟨t1, rfl⟩ := ra
  exact PyProof.Rows.neg_int (ep_end2 K1 R1 ⟨_, rfl⟩ (Kt.tok _))

/-! displays -/
noncomputable def SP (G : Gl) (n : Nat) (F : Scope) (t : Bool) (pos : Pos) (es : List Expr) (σ : List V) (vs : List V) : Prop :=
  ∀ D ow s E, D.Ok G n F → Rel G D ow σ s → wpAny (model G.prog G.w) D.A (spliced (backTo pos (starEach es D.env))) (fun vals s' => RepAll (Bad D ow) s'.heap vs vals ∧ Kt G t s s' ∧ G.TabOk (Bad D ow) s'.heap) E s
theorem SP.go {es : List Expr} {vs : List V} (h : SP G n F t pos es σ vs) {D : Dyn} {ow : Nat → Option Addr} {s : Shared} {E : Value → Shared → Prop} {Q : List Value → Shared → Prop} (O : D.Ok G n F) (R : Rel G D ow σ s)
    (hQ : ∀ vals s', RepAll (Bad D ow) s'.heap vs vals → Kt G t s s' → Rel G D ow σ s' → Q vals s') : wpAny (model G.prog G.w) D.A (spliced (backTo pos (starEach es D.env))) Q E s :=
  wpAny_mono (wpAny_toks (h D ow s E O R)) (fun r s' x => hQ r s' x.2.1 x.2.2.1 (R.kt O x.2.2.1 x.1 x.2.2.2)) fun _ _ x => x.2
theorem sp_nil : SP G n F t pos [] σ [] := fun D ow s E O R => spliced_nil ⟨trivial, Kt.refl .., R.tab⟩
noncomputable def V.noLoan : V → Bool
  | .loan _ => false
  | _ => true
theorem Rep.kt {D : Dyn} {ow : Nat → Option Addr} {s s' : Shared} {v : V} {val : Value} (O : D.Ok G n F) (r : Rep (Bad D ow) s.heap v val) (K : Kt G t s s') (hl : v.noLoan = true) : Rep (Bad D ow) s'.heap v val :=
  r.mono (fun _ q => .inl q) (fun b o nb e => K.at (fun h => nb (h ▸ .inl O.mutT)) e) (by intro l e; subst e; cases hl)
theorem sp_cons {e : Expr} {es : List Expr} {v : V} {vs : List V} (hs : ∀ env, starEach (e :: es) env = (false, eval e env) :: starEach es env) (h : EP G n F t e σ v) (h2 : SP G n F t pos es σ vs) (hl : v.noLoan = true) : SP G n F t pos (e :: es) σ (v :: vs) := fun D ow s E O R => by
  rw [hs]
  show wpAny _ _ (spliced ((false, eval e D.env) :: backTo pos (starEach es D.env))) _ _ _
  refine spliced_cons (h.go O R fun a s1 ra K1 R1 => h2.go O R1 fun vals s2 rv K2 R2 => ?_)
  exact ⟨⟨ra.kt O K2 hl, rv⟩, K1.trans K2, R2.tab⟩
theorem RepAll.reps {bad : Addr → Prop} {h : Heap} : ∀ {l : List V} {vs : List Value}, RepAll bad h l vs → (l.all fun v => match v with | .none | .bool _ | .int _ | .str _ | .raw _ => true | _ => false) = true → Reps l vs
  | [], [], _, _ => trivial
  | [], _ :: _, h, _ => h.elim
  | _ :: _, [], h, _ => h.elim
  | a :: l, v :: vs, h, e => by
    rw [List.all_cons, Bool.and_eq_true] at e
    refine ⟨?_, h.2.reps e.2⟩
    have h1 := h.1
    have e1 := e.1
    cases a <;> first | exact h1 | cases e1
noncomputable def atoms (l : List V) : Bool := l.all fun v => match v with | .none | .bool _ | .int _ | .str _ | .raw _ => true | _ => false
theorem f_list {es : List Expr} {vs : List V} (h : SP G n F t pos es σ vs) (ha : atoms vs = true) (hz : vs.length ≤ 1000) : EF G n F t (.List es pos) σ vs := fun D ow s E O R => by
  refine wpAny_List (h.go O R fun vals s1 rv K1 R1 => ?_)
  have q := rv.reps ha
  exact ⟨by rw [sizeLine_eq, q.length]; omega, f_end s1.toks K1 R1 q⟩
theorem e_tuple {es : List Expr} {vs : List V} {k : Nat} (h : SP G n F t pos es σ vs) (ha : atoms vs = true) (hz : vs.length ≤ 1000) : EP G n F t (.Tuple es k pos) σ (.tuple vs) := fun D ow s E O R => by
  refine wpAny_Tuple (h.go O R fun vals s1 rv K1 R1 => ?_)
  have q := rv.reps ha
  refine ⟨by rw [sizeLine_eq, q.length]; omega, ep_end2 K1 R1 ⟨_, vals, rfl, ?_, ⟨_, Heap.get?_push_size _ rfl, rfl, 0, rfl⟩, q⟩ (Kt.push _ _)⟩
  exact not_bad_of_none O R (fresh_of K1 R1)

/-! f-strings -/
noncomputable def JP (G : Gl) (n : Nat) (F : Scope) (t : Bool) (es : List Expr) (σ : List V) (acc out : Str) : Prop :=
  ∀ D ow s E Q, D.Ok G n F → Rel G D ow σ s → (∀ s', Kt G t s s' → Rel G D ow σ s' → Q out s') → Joins (model G.prog G.w) D.A E (evalEach es D.env) acc Q s
theorem jp_nil {acc : Str} : JP G n F t [] σ acc acc := fun D ow s E Q O R h => h s (Kt.refl ..) R
theorem jp_cons {e : Expr} {es : List Expr} {acc x out : Str} (h : EP G n F t e σ (.str x)) (hz : acc.length + x.length ≤ 16777216) (h2 : JP G n F t es σ (acc ++ x) out) : JP G n F t (e :: es) σ acc out := fun D ow s E Q O R hQ => by
  show wpAny _ _ _ _ _ _
  refine h.go O R fun a s1 ra K1 R1 => ?_
  obtain ⟨t1, rfl⟩ := ra
  exact ⟨x, t1, rfl, by rw [sizeLine_eq, Str.length_append]; exact hz, h2 D ow s1 E Q O R1 fun s' K R' => hQ s' (K1.trans K) R'⟩
theorem e_joined {e₁ e₂ : Expr} {es : List Expr} {out : Str} (h : JP G n F t (e₁ :: e₂ :: es) σ Str.empty out) (hz : out.length ≤ 16777216) : EP G n F t (.JoinedStr (e₁ :: e₂ :: es) pos) σ (.str out) := fun D ow s E O R => by
  refine wpAny_JoinedStr (h D ow s E _ O R fun s' K R' => ?_)
  exact ⟨by rw [sizeLine_eq]; exact hz, ep_end2 K R' ⟨_, rfl⟩ (Kt.tok _)⟩
theorem e_fv {e : Expr} {x : Str} (h : EP G n F t e σ (.str x)) (hz : x.length ≤ 16777216) : EP G n F t (.FormattedValue e (-1) none pos) σ (.str x) := fun D ow s E O R => by
  refine wpAny_FormattedValue_plain (h.go O R fun a s1 ra K1 R1 => ?_)
  obtain ⟨t1, rfl⟩ := ra
  exact wpAny_formatField_str (ep_end2 K1 R1 ⟨_, rfl⟩ (Kt.refl ..)) (ep_end2 K1 R1 ⟨_, rfl⟩ (Kt.tok _)) (by rw [sizeLine_eq]; exact hz)
end
section
variable {G : Gl} {n : Nat} {F : Scope} {t : Bool} {σ : List V} {pos : Pos}

theorem repA_rep {bad : Addr → Prop} {h : Heap} {v : V} {val : Value} (r : RepA v val) : Rep bad h v val := by
  cases v <;> first | exact r | exact r.elim

/-! subscripts -/
theorem wp_Subscript {A : Around} {E : Value → Shared → Prop} {s : Shared} {env : Env} {Q : Value → Shared → Prop} {prog : Program} {w : World} {value slice : Expr} (hs : ∀ o i, ∃ ops, subscripted slice false o i = operate ops (getItem o i))
    (h : wpAny (model prog w) A (eval value env) (fun o s₁ => wpAny (model prog w) A (eval slice env) (fun i s₂ => ItemOn (model prog w) A E o i Q s₂) E s₁) E s) :
    wpAny (model prog w) A (eval (.Subscript value slice pos) env) Q E s := by
  rw [eval_Subscript]
  refine wpAny_bind (wpAny_mono h (fun o s₁ h₁ => wpAny_bind (wpAny_holding (wpAny_mono h₁ (fun i s₂ h₂ => wpAny_bind (wpAny_standAt ?_)) fun _ _ x => x))) fun _ _ x => x)
  obtain ⟨T, id, hl, hT, hg⟩ := h₂
  obtain ⟨ops, e⟩ := hs o i
  have fin : wpAny (model prog w) A (subscripted slice false o i) (fun r s₃ => wpAny (model prog w) A (letTemporaryGo value o r >>= fun _ => pure r) Q E s₃) E s₂ := by
    rw [e]
    exact wpAny_operating (wpAny_mono hg (fun r s₃ h₃ => wpAny_bind (wpAny_letTemporaryGo (wpAny_pure h₃))) fun _ _ x => x)
  first
    | (refine wpAny_bind ?_; rw [getitemInPython_of_ne hT.not_modules]; refine wpAny_bind (wpAny_specialOf hT hl ?_); first
        | exact wpAny_pure (wpAny_bind fin)
        | exact wpAny_bind (wpAny_pure (wpAny_bind fin))
        | exact wpAny_bind fin)
    | (refine wpAny_bind (wpAny_specialOf hT hl ?_); first
        | exact wpAny_pure (wpAny_bind fin)
        | exact wpAny_bind (wpAny_pure (wpAny_bind fin))
        | exact wpAny_bind fin)

noncomputable def Plain1 (slice : Expr) : Prop := ∀ o i, ∃ ops, subscripted slice false o i = operate ops (getItem o i)
theorem e_item {a b : Expr} {l : List V} {i : Int} {v : V} (hs : Plain1 b) (ha : EP G n F t a σ (.loan l)) (hb : EP G n F false b σ (.int i)) (h0 : 0 ≤ i) (h1 : i < 2 ^ 63) (hv : l[i.toNat]? = some v) :
    EP G n F t (.Subscript a b pos) σ v := fun D ow s E O R => by
  refine wp_Subscript hs (ha.go O R fun o s1 ra K1 R1 => hb.go O R1 fun j s2 rb K2 R2 => ?_)
  obtain ⟨q, items, rfl, p, q'⟩ := ra; obtain ⟨t2, rfl⟩ := rb
  obtain ⟨val, e1, e2⟩ := q'.get hv
  have p2 := IsList.mono p fun o e => K2.strict _ o e
  exact ⟨"list", _, slot_list_getitem.lookup, p2.typeIs, wpAny_getItem_list p2 h0 h1 (by simpa using e1) (ep_end2 (K1.trans K2.weak) R2 (repA_rep e2) (Kt.refl ..))⟩
theorem e_item_neg {a b : Expr} {l : List V} {i : Int} {v : V} (hs : Plain1 b) (ha : EP G n F t a σ (.loan l)) (hb : EP G n F false b σ (.int i)) (h0 : i < 0) (h1 : -(l.length : Int) ≤ i) (h2 : -(2 ^ 63) ≤ i) (hv : l[(i + l.length).toNat]? = some v) :
    EP G n F t (.Subscript a b pos) σ v := fun D ow s E O R => by
  refine wp_Subscript hs (ha.go O R fun o s1 ra K1 R1 => hb.go O R1 fun j s2 rb K2 R2 => ?_)
  obtain ⟨q, items, rfl, p, q'⟩ := ra; obtain ⟨t2, rfl⟩ := rb
  obtain ⟨val, e1, e2⟩ := q'.get hv
  have p2 := IsList.mono p fun o e => K2.strict _ o e
  have e3 := q'.length
  exact ⟨"list", _, slot_list_getitem.lookup, p2.typeIs, wpAny_getItem_list_neg p2 h0 (by simpa [e3] using h1) h2 (by simpa [e3] using e1) (ep_end2 (K1.trans K2.weak) R2 (repA_rep e2) (Kt.refl ..))⟩
theorem e_item_str {a b : Expr} {x : Str} {i : Int} {c : Nat} (hs : Plain1 b) (ha : EP G n F t a σ (.str x)) (hb : EP G n F t b σ (.int i)) (h0 : 0 ≤ i) (h1 : i < 2 ^ 63) (hv : x.cps[i.toNat]? = some c) :
    EP G n F t (.Subscript a b pos) σ (.str ⟨#[c]⟩) := fun D ow s E O R => by
  refine wp_Subscript hs (ha.go O R fun o s1 ra K1 R1 => hb.go O R1 fun j s2 rb K2 R2 => ?_)
  obtain ⟨t1, rfl⟩ := ra; obtain ⟨t2, rfl⟩ := rb
  have hlt : i.toNat < x.cps.size := (Array.getElem?_eq_some_iff.mp hv).1
  have e : Txt.charAt x i = some c := by
    unfold Txt.charAt PySem.seqIndex?
    have hi : ¬ i < 0 := by omega
    have hj : 0 ≤ i ∧ i < (x.length : Int) := ⟨h0, by simp only [Str.length]; omega⟩
    simp [hi, hj, hv]
  refine SB.item (by unfold fitsSsize; simp; omega) (by rw [e]; rfl) ?_
  have e' : Txt.item x i = ⟨#[c]⟩ := by unfold Txt.item; rw [e]; rfl
  rw [e']
  exact ep_end2 (K1.trans K2) R2 ⟨_, rfl⟩ (Kt.tok _)

/-! slices -/
noncomputable def PP (G : Gl) (n : Nat) (F : Scope) (lo : Option Expr) (σ : List V) (o : Option Int) : Prop :=
  ∀ D ow s E Q, D.Ok G n F → Rel G D ow σ s → (∀ (l : Option (Int × Tok)) s', l.map (·.1) = o → Kt G false s s' → Rel G D ow σ s' → Q (partValue l) s') → wpAny (model G.prog G.w) D.A (evalPart lo D.env) Q E s
theorem pp_none : PP G n F none σ none := fun D ow s E Q O R h => wpAny_evalPart_none (h none s rfl (Kt.refl ..) R)
theorem pp_some {e : Expr} {i : Int} (h : EP G n F false e σ (.int i)) : PP G n F (some e) σ (some i) := fun D ow s E Q O R hQ =>
  wpAny_evalPart_some (h.go O R fun v s1 rv K1 R1 => by
    obtain ⟨t1, rfl⟩ := rv
    exact hQ (some (i, t1)) s1 rfl K1 R1)
theorem isPart_of (l : Option (Int × Tok)) : IsPart (partValue l) (l.map (·.1)) := by
  cases l with
  | none => exact .none
  | some p => exact .int p.1 p.2
theorem e_slice_str {a : Expr} {lo hi : Option Expr} {x : Str} {o o' : Option Int} {p : Pos} (ha : EP G n F t a σ (.str x)) (hl : PP G n F lo σ o) (hh : PP G n F hi σ o') (hz : x.length ≤ 16777216) :
    EP G n F t (.Subscript a (.Slice lo hi none p) pos) σ (.str (Txt.slice x o o')) := fun D ow s E O R => by
  refine wp_Subscript (fun o i => ⟨[i, o], rfl⟩) (ha.go O R fun ov s1 ra K1 R1 => wpAny_Slice (hl D ow s1 _ _ O R1 fun l s2 e1 K2 R2 => hh D ow s2 _ _ O R2 fun u s3 e2 K3 R3 => ?_))
  obtain ⟨t1, rfl⟩ := ra
  rw [evalPart_none]
  refine wpAny_pure ⟨"str", _, PySem.F.slot_str_getitem.lookup, typeIs_str _ x t1, ?_⟩
  refine wpAny_getItem_str_slice (l := l) (u := u) (st := none) ⟨_, Heap.get?_push_size _ rfl, rfl, rfl⟩ rfl ?_
  have e : sliceMade x t1 l u none = if (((1 : Int) == 1) && (Builtin.Str.strSliceIndices (l.map (·.1)) (u.map (·.1)) 1 x.length).length == x.length) = true then Made.val (.str x t1)
      else Made.str ⟨((Builtin.Str.strSliceIndices (l.map (·.1)) (u.map (·.1)) 1 x.length).filterMap (x.cps[·]?)).toArray⟩ := rfl
  rw [e]
  have hle := Txt.slice_le x o o'
  rw [← e1, ← e2] at hle ⊢
  refine post_val_or_str ⟨?_, fun t' k => ?_⟩
  · rw [sizeLine_eq]; exact Nat.le_trans hle hz
  · exact ep_end2 (K1.trans ((K2.trans K3).weak)) R3 ⟨t', rfl⟩ (Kt.push _ _)

/-- what a slice picks -/
noncomputable def sl (l : List V) (lo hi st : Option Int) : List V :=
  (sliceRange (sliceBounds lo hi st l.length).1 (sliceBounds lo hi st l.length).2.1 (sliceBounds lo hi st l.length).2.2).filterMap (l[·]?)
theorem Reps.filterMap {l : List V} {vs : List Value} (h : Reps l vs) : ∀ js : List Nat, Reps (js.filterMap (l[·]?)) (js.filterMap (vs[·]?))
  | [] => trivial
  | j :: js => by
    cases e : l[j]? with
    | none =>
      have e' : vs[j]? = none := by
        rw [List.getElem?_eq_none_iff] at e ⊢
        rw [h.length]; exact e
      rw [List.filterMap_cons_none e, List.filterMap_cons_none e']
      exact h.filterMap js
    | some v =>
      obtain ⟨val, e1, e2⟩ := h.get e
      rw [List.filterMap_cons_some e, List.filterMap_cons_some e1]
      exact ⟨e2, h.filterMap js⟩
theorem f_slice {a : Expr} {lo hi : Option Expr} {l : List V} {o o' : Option Int} {p : Pos} (ha : EP G n F t a σ (.loan l)) (hl : PP G n F lo σ o) (hh : PP G n F hi σ o') (hz : l.length ≤ 16777216) :
    EF G n F t (.Subscript a (.Slice lo hi none p) pos) σ (sl l o o' none) := fun D ow s E O R => by
  refine wp_Subscript (fun o i => ⟨[i, o], rfl⟩) (ha.go O R fun ov s1 ra K1 R1 => wpAny_Slice (hl D ow s1 _ _ O R1 fun lv s2 e1 K2 R2 => hh D ow s2 _ _ O R2 fun uv s3 e2 K3 R3 => ?_))
  obtain ⟨q, items, rfl, pl, q'⟩ := ra
  have pl3 := IsList.mono pl fun o e => (K2.trans K3).strict _ o e
  rw [evalPart_none]
  refine wpAny_pure ⟨"list", _, slot_list_getitem.lookup, (pl3.push _).typeIs, ?_⟩
  refine wpAny_getItem_list_slice (pl3.push _) (Heap.IsSliceOf.new ..) (isPart_of lv) (isPart_of uv) .none (by simp) ?_ (by rw [sizeLine_eq, List.size_toArray, q'.length]; exact hz)
  have R4 : Rel G D ow σ { s3 with heap := s3.heap.push { cls := .type "slice", data := .fields #[partValue lv, partValue uv, .none] } } :=
    R3.kt O (t := t) (Kt.push _ _) (Nat.le_refl _) (Gl.tabKt R3.tab fun _ _ e => Heap.get?_push_of_some _ e)
  have Z : slicePick items.toArray (lv.map (·.1)) (uv.map (·.1)) none = (List.toArray ((sliceRange (sliceBounds o o' none l.length).1 (sliceBounds o o' none l.length).2.1 (sliceBounds o o' none l.length).2.2).filterMap (items[·]?))) := by
    unfold slicePick
    rw [e1, e2, List.size_toArray, q'.length]
    simp
  rw [Z]
  exact f_end s3.toks ((K1.trans ((K2.trans K3).weak)).trans (Kt.push _ _)) R4 (q'.filterMap _)
theorem f_slice_step {a st : Expr} {lo hi : Option Expr} {l : List V} {o o' : Option Int} {k : Int} {p : Pos} (ha : EP G n F t a σ (.loan l)) (hl : PP G n F lo σ o) (hh : PP G n F hi σ o') (hst : EP G n F false st σ (.int k)) (hk : k ≠ 0) (hz : l.length ≤ 16777216) :
    EF G n F t (.Subscript a (.Slice lo hi (some st) p) pos) σ (sl l o o' (some k)) := fun D ow s E O R => by
  refine wp_Subscript (fun o i => ⟨[o, i], rfl⟩) (ha.go O R fun ov s1 ra K1 R1 => wpAny_Slice (hl D ow s1 _ _ O R1 fun lv s2 e1 K2 R2 => hh D ow s2 _ _ O R2 fun uv s3 e2 K3 R3 =>
    pp_some hst D ow s3 _ _ O R3 fun wv s4 e3 K4 R4 => ?_))
  obtain ⟨q, items, rfl, pl, q'⟩ := ra
  have pl3 := IsList.mono pl fun o e => ((K2.trans K3).trans K4).strict _ o e
  refine ⟨"list", _, slot_list_getitem.lookup, (pl3.push _).typeIs, ?_⟩
  refine wpAny_getItem_list_slice (pl3.push _) (Heap.IsSliceOf.new ..) (isPart_of lv) (isPart_of uv) (isPart_of wv) (by rw [e3]; simpa using hk) ?_ (by rw [sizeLine_eq, List.size_toArray, q'.length]; exact hz)
  have R5 : Rel G D ow σ { s4 with heap := s4.heap.push { cls := .type "slice", data := .fields #[partValue lv, partValue uv, partValue wv] } } :=
    R4.kt O (t := t) (Kt.push _ _) (Nat.le_refl _) (Gl.tabKt R4.tab fun _ _ e => Heap.get?_push_of_some _ e)
  have Z : slicePick items.toArray (lv.map (·.1)) (uv.map (·.1)) (wv.map (·.1)) = (List.toArray ((sliceRange (sliceBounds o o' (some k) l.length).1 (sliceBounds o o' (some k) l.length).2.1 (sliceBounds o o' (some k) l.length).2.2).filterMap (items[·]?))) := by
    unfold slicePick
    rw [e1, e2, e3, List.size_toArray, q'.length]
    simp
  rw [Z]
  exact f_end s4.toks ((K1.trans (((K2.trans K3).trans K4).weak)).trans (Kt.push _ _)) R5 (q'.filterMap _)

/-! calls -/
theorem wp_evalArgs {M : Model} {A : Around} {E : Value → Shared → Prop} {s : Shared} {f : Value} {args : List (Bool × Sem Value)} {Q : Args → Shared → Prop} (hp : args.any (·.1) = false)
    (h : wpAny M A (spliced args) (fun vs s' => Q ⟨vs, []⟩ s') E s) : wpAny M A (evalArgs f true args []) Q E s := by
  cases args with
  | nil =>
    unfold evalArgs
    show wpAny M A (spliced [] >>= _) Q E s
    refine wpAny_bind (wpAny_mono h (fun vs s' h' => ?_) fun _ _ x => x)
    refine wpAny_holding ?_
    exact wpAny_bind (wpAny_pure (wpAny_bind (wpAny_pure (wpAny_pure h'))))
  | cons x rest =>
    obtain ⟨b, x⟩ := x
    cases b with
    | true => simp at hp
    | false => exact evalArgs_plain h
theorem RepAll.kt {D : Dyn} {ow : Nat → Option Addr} {s s' : Shared} (O : D.Ok G n F) (K : Kt G t s s') : ∀ {l : List V} {vs : List Value}, RepAll (Bad D ow) s.heap l vs → (l.all (·.noLoan)) = true → RepAll (Bad D ow) s'.heap l vs
  | [], [], _, _ => trivial
  | [], _ :: _, h, _ => h.elim
  | _ :: _, [], h, _ => h.elim
  | a :: l, v :: vs, h, e => by
    rw [List.all_cons, Bool.and_eq_true] at e
    exact ⟨h.1.kt O K e.1, h.2.kt O K e.2⟩
noncomputable def NoStar (es : List Expr) : Prop := ∀ env pos, (backTo pos (starEach es env)).any (·.1) = false

theorem room_le {n m : Nat} {A : Around} (h : Room n A) (hm : m ≤ n) : Room m A := ⟨by have := h.1; omega, by have := h.2.1; omega, h.2.2⟩
theorem e_call_b {x : Expr} {es : List Expr} {id : String} {vs : List V} {r : V} (hx : ∀ as, eval (.Call x as [] pos) = fun env => (do callWith pos (← eval x env) [] (backTo pos (starEach as env)) (backToKw pos (keywordEach [] env))))
    (hf : EP G n F t x σ (.raw (.builtin id))) (ha : SP G n F t pos es σ vs) (hns : NoStar es) (hc : CallV G n t (.builtin id) vs r) : EP G n F t (.Call x es [] pos) σ r := fun D ow s E O R => by
  rw [hx]
  refine wpAny_bind (hf.go O R fun f s1 rf K1 R1 => ?_)
  have rf' : f = .builtin id := rf
  subst rf'
  refine callWith_builtin (hns _ _) (wp_evalArgs (hns _ _) (ha.go O R1 fun vals s2 rv K2 R2 => ?_))
  exact wpAny_mono (hc D.A (Bad D ow) s2 vals E O.room (R2.around O) rv) (fun val s' x => ⟨x.1, (K1.trans K2).trans x.2.1, x.2.2⟩) fun _ _ x => x
theorem e_call_t {x : Expr} {es : List Expr} {T : String} {vs : List V} {r : V} (hx : ∀ as, eval (.Call x as [] pos) = fun env => (do callWith pos (← eval x env) [] (backTo pos (starEach as env)) (backToKw pos (keywordEach [] env))))
    (hf : EP G n F t x σ (.raw (.type T))) (ha : SP G n F t pos es σ vs) (hns : NoStar es) (hc : CallV G n t (.type T) vs r) : EP G n F t (.Call x es [] pos) σ r := fun D ow s E O R => by
  rw [hx]
  refine wpAny_bind (hf.go O R fun f s1 rf K1 R1 => ?_)
  have rf' : f = .type T := rf
  subst rf'
  refine PySem.callWith_type (hns _ _) (wp_evalArgs (hns _ _) (ha.go O R1 fun vals s2 rv K2 R2 => ?_))
  exact wpAny_mono (hc D.A (Bad D ow) s2 vals E O.room (R2.around O) rv) (fun val s' x => ⟨x.1, (K1.trans K2).trans x.2.1, x.2.2⟩) fun _ _ x => x
theorem e_call_f {x : Expr} {es : List Expr} {f : Addr} {o : Obj} {fd : FuncData} {vs : List V} {r : V} (hx : ∀ as, eval (.Call x as [] pos) = fun env => (do callWith pos (← eval x env) [] (backTo pos (starEach as env)) (backToKw pos (keywordEach [] env))))
    (hf : EP G n F t x σ (.raw (.ref f))) (ho : G.g₀.get? f = some o) (hd : o.data = .func fd) (ha : SP G n F t pos es σ vs) (hns : NoStar es) (hc : CallV G n t (.ref f) vs r) : EP G n F t (.Call x es [] pos) σ r := fun D ow s E O R => by
  rw [hx]
  refine wpAny_bind (hf.go O R fun fv s1 rf K1 R1 => ?_)
  have rf' : fv = .ref f := rf
  subst rf'
  refine callWith_function (o := o) (fd := fd) (wp_evalArgs (hns _ _) (ha.go O R1 fun vals s2 rv K2 R2 => ⟨⟨R2.keep _ _ ho, hd⟩, ?_⟩))
  exact wpAny_mono (hc D.A (Bad D ow) s2 vals E O.room (R2.around O) rv) (fun val s' x => ⟨x.1, (K1.trans K2).trans x.2.1, x.2.2⟩) fun _ _ x => x
/-- a method of a str -/
theorem e_meth {o : Expr} {name : Str} {apos : Pos} {es : List Expr} {id : String} {x : Str} {vs : List V} {r : V} (slot : Slot "str" name id) (ty : typeOf (.builtin id) = pure (.type "method_descriptor"))
    (hb : ∀ env whole, attributeBase o name env whole = whole) (hfew : ∀ env, ((backTo pos (starEach es env)).all (fun x => !x.1) && (backToKw pos (keywordEach [] env)).all (fun x => x.1.isSome)
      && decide (es.length + ([] : List Keyword).length + (if ([] : List Keyword).isEmpty then 0 else 1) < 30)) = true) (hline : (apos.endLine == pos.line) = true)
    (ho : EP G n F t o σ (.str x)) (ha : SP G n F t pos es σ vs) (hns : NoStar es) (hc : CallV G n t (.builtin id) (.str x :: vs) r) : EP G n F t (.Call (.Attribute o name apos) es [] pos) σ r := fun D ow s E O R => by
  refine wpAny_Call_method_lateS (hb _ _) (hfew _) hline (ho.go O R fun ov s1 ro K1 R1 => ?_)
  obtain ⟨t1, rfl⟩ := ro
  refine ⟨"str", id, PySem.F.plainAttrs_str, slot, ty, typeIs_str _ _ _, (fun _ e => nomatch e), ?_⟩
  refine callWith_builtin (hns _ _) (wp_evalArgs (hns _ _) (ha.go O R1 fun vals s2 rv K2 R2 => ?_))
  exact wpAny_mono (hc D.A (Bad D ow) s2 (.str x t1 :: vals) E O.room (R2.around O) ⟨⟨t1, rfl⟩, rv⟩) (fun val s' x => ⟨x.1, (K1.trans K2).trans x.2.1, x.2.2⟩) fun _ _ x => x
end
theorem nodup_at {l : List (Str × NameKind)} (h : (l.map (·.1)).Nodup) {j k : Nat} {x : Str} {a b : NameKind} (h1 : l[j]? = some (x, a)) (h2 : l[k]? = some (x, b)) : j = k := by
  have h1' : (l.map (·.1))[j]? = some x := by simp [h1]
  have h2' : (l.map (·.1))[k]? = some x := by simp [h2]
  have hj : j < (l.map (·.1)).length := (List.getElem?_eq_some_iff.mp h1').1
  exact (List.getElem?_inj hj h).mp (h1'.trans h2'.symm)

theorem KX.refl (G : Gl) (t : Bool) (D : Dyn) (ow : Nat → Option Addr) (s : Shared) : KX G t D ow s s := ⟨s.heap, s.toks, rfl, fun _ _ _ e => e⟩
theorem KX.of_kt {G : Gl} {t : Bool} {D : Dyn} {ow : Nat → Option Addr} {s s' : Shared} (K : Kt G t s s') : KX G t D ow s s' := by
  obtain ⟨h', tk, rfl, k⟩ := K
  exact ⟨h', tk, rfl, fun b o off e => k b o off.2.2.2 e⟩
theorem KX.weak {G : Gl} {t : Bool} {D : Dyn} {ow : Nat → Option Addr} {s s' : Shared} (K : KX G false D ow s s') : KX G t D ow s s' := by
  obtain ⟨h', tk, rfl, k⟩ := K
  exact ⟨h', tk, rfl, fun b o off e => k b o ⟨off.1, off.2.1, off.2.2.1, by intro h; cases h⟩ e⟩
theorem KX.trans {G : Gl} {t : Bool} {D : Dyn} {ow ow' : Nat → Option Addr} {s s' s'' : Shared} (x : KX G t D ow s s') (y : KX G t D ow' s' s'') (g : OwG ow ow' s) : KX G t D ow s s'' := by
  obtain ⟨h', tk, rfl, k⟩ := x
  obtain ⟨h'', tk', rfl, k'⟩ := y
  refine ⟨h'', tk', rfl, fun b o off e => k' b o ⟨off.1, off.2.1, fun j q => ?_, off.2.2.2⟩ (k b o off e)⟩
  rcases g j b q with ⟨j', q'⟩ | q'
  · exact off.2.2.1 j' q'
  · rw [q'] at e; cases e
theorem OwG.refl (ow : Nat → Option Addr) (s : Shared) : OwG ow ow s := fun k a h => .inl ⟨k, h⟩
/-- what is fresh to a later state is fresh to the earlier, where own things, frames and the table are live -/
theorem OwG.trans {G : Gl} {n : Nat} {F : Scope} {t : Bool} {D : Dyn} {σ' : List V} {ow ow' ow'' : Nat → Option Addr} {s s' : Shared} (O : D.Ok G n F) (R' : Rel G D ow' σ' s') (K : KX G t D ow s s') (x : OwG ow ow' s) (y : OwG ow' ow'' s') : OwG ow ow'' s := by
  intro k a h
  rcases y k a h with ⟨k', h'⟩ | h'
  · exact x k' a h'
  · obtain ⟨h1, tk, rfl, kk⟩ := K
    cases e : s.heap.get? a with
    | none => exact .inr rfl
    | some o =>
      left
      by_cases hx : ∃ k', ow k' = some a
      · exact hx
      · exfalso
        have live : ∃ o', h1.get? a = some o' := by
          by_cases hm : D.mu a
          · exact R'.live a hm
          · refine ⟨o, kk a o ⟨fun q => hm (q ▸ O.mutL), fun c hc q => hm (q ▸ O.mutC c hc), fun j q => hx ⟨j, q⟩, fun _ q => hm (q ▸ O.mutT)⟩ e⟩
        obtain ⟨o', ho'⟩ := live
        have h'' : h1.get? a = none := h'
        rw [h''] at ho'; cases ho'

section
variable {G : Gl} {n : Nat} {F : Scope} {t : Bool} {σ : List V} {pos : Pos}

theorem wp_storeT {D : Dyn} {ow : Nat → Option Addr} {s : Shared} {E : Value → Shared → Prop} {x : Str} {k : Nat} {kd : NameKind} {v : V} {val : Value} {Q : Unit → Shared → Prop} (O : D.Ok G n F) (R : Rel G D ow σ s)
    (hk : idx F x = some (k, kd)) (hkd : (kd == .local || kd == .cell) = true) (hl : k < σ.length) (r : RepVar D ow s.heap k v val)
    (hQ : ∀ s', Rel G D ow (σ.set k v) s' → KX G false D ow s s' → (kd = .local → s.toks < s'.toks) → Q () s') : wpAny (model G.prog G.w) D.A (storeName D.env x val) Q E s := by
  have hs := O.scope
  obtain ⟨h1, h2⟩ := idx_at hk
  have hkind : D.env.scope.kind = .function := by rw [hs]; exact O.kind
  have stay : ∀ (c : Addr) (h' : Heap), D.mu c → c ≠ G.tab → G.g₀.get? c = none → Heap.SameBut c s.heap h' → (∃ o, h'.get? c = some o) →
      (∀ b o, G.g₀.get? b = some o → h'.get? b = some o) ∧ G.TabOk (Bad D ow) h' ∧ (∀ b, D.mu b → ∃ o, h'.get? b = some o) ∧ (∀ k a, ow k = some a → ¬ D.mu a ∧ (∃ o, h'.get? a = some o) ∧ G.g₀.get? a = none) ∧
      (∀ k v val, RepVar D ow s.heap k v val → RepVar D ow h' k v val) := by
    intro c h' hm hc hg hsb hlive
    have keep : ∀ b o, b ≠ c → s.heap.get? b = some o → h'.get? b = some o := fun b o hb e => hsb.extBut b o hb e
    refine ⟨fun b o e => keep b o (fun q => by rw [q, hg] at e; cases e) (R.keep b o e), ?_, fun b hb => ?_, fun k a e => ?_, fun k v val rv => ?_⟩
    · refine G.tabKeep R.tab (fun _ q => .inl q) fun b o hb e => keep b o (fun q => ?_) e
      rcases hb with hb | hb
      · exact hc (q ▸ hb)
      · exact hb (.inl (q ▸ hm))
    · by_cases q : b = c
      · subst q; exact hlive
      · obtain ⟨o, e⟩ := R.live b hb; exact ⟨o, keep b o q e⟩
    · obtain ⟨p1, ⟨o, p2⟩, p3⟩ := R.own k a e
      exact ⟨p1, ⟨o, keep a o (fun q => p1 (q ▸ hm)) p2⟩, p3⟩
    · refine rv.mono fun b o hb e => keep b o (fun q => ?_) e
      rcases hb with hb | hb
      · exact hb (.inl (q ▸ hm))
      · exact (R.own k b hb).1 (q ▸ hm)
  have getset : ∀ j w, (σ.set k v)[j]? = some w → (j = k ∧ w = v) ∨ (j ≠ k ∧ σ[j]? = some w) := by
    intro j w e
    by_cases hj : j = k
    · subst hj
      rw [List.getElem?_set_self hl] at e
      exact .inl ⟨rfl, (Option.some.inj e).symm⟩
    · rw [List.getElem?_set_ne (Ne.symm hj)] at e
      exact .inr ⟨hj, e⟩
  cases kd with
  | «local» =>
    obtain ⟨m, hn, hm⟩ := R.ns
    refine wpAny_storeName_local (by unfold Env.kindOf; rw [hs]; exact h2) hn (fun h' hn' hsb => ?_) (by rw [hkind]; rfl)
    obtain ⟨oL, esL, epL, hoL, _⟩ := id hn'
    obtain ⟨a1, a2, a3, a4, a5⟩ := stay D.env.locals h' O.mutL O.LT O.noL hsb ⟨oL, hoL⟩
    refine hQ _ ⟨a1, Nat.le_succ_of_le R.toks, a2, a3, ⟨_, hn', fun j y w e1 e2 e3 => ?_⟩, fun j y e1 => ?_, a4, R.inj⟩ ⟨h', _, rfl, fun b o off e => hsb.extBut b o off.1 e⟩ (fun _ => Nat.lt_succ_self _)
    · rcases getset j w e2 with ⟨rfl, rfl⟩ | ⟨hj, e2'⟩
      · have : y = x := by
          rw [hs] at e1
          rw [h1] at e1
          exact (Prod.mk.inj (Option.some.inj e1)).1.symm
        subst this
        exact ⟨val, by simp, a5 _ _ _ r⟩
      · have hy : y ≠ x := by
          intro q; subst q
          rw [hs] at e1
          exact hj (nodup_at O.nodup e1 h1)
        obtain ⟨val', p1, p2⟩ := hm j y w e1 e2' e3
        exact ⟨val', by simp [hy, p1], a5 _ _ _ p2⟩
    · obtain ⟨c, vo, p1, p2, p3⟩ := R.cells j y e1
      refine ⟨c, vo, p1, p2.sameBut hsb (O.LC (y, c) (mem_of_lookup p1)), fun w e2 e3 => ?_⟩
      rcases getset j w e2 with ⟨rfl, rfl⟩ | ⟨hj, e2'⟩
      · rw [hs, h1] at e1; cases e1
      · obtain ⟨val', q1, q2⟩ := p3 w e2' e3
        exact ⟨val', q1, a5 _ _ _ q2⟩
  | cell =>
    obtain ⟨c, vo, e1, hc, hm⟩ := R.cells k x (by rw [hs]; exact h1)
    have mem := mem_of_lookup e1
    refine wpAny_storeName_cell hkind (by unfold Env.kindOf; rw [hs]; exact h2) e1 hc (fun h' hc' hsb => ?_)
    obtain ⟨oC, hoC, _⟩ := id hc'
    obtain ⟨a1, a2, a3, a4, a5⟩ := stay c h' (O.mutC _ mem) (O.CT _ mem) (O.noC _ mem) hsb ⟨oC, hoC⟩
    obtain ⟨m, hn, hmm⟩ := R.ns
    refine hQ _ ⟨a1, R.toks, a2, a3, ⟨m, hn.sameBut hsb (Ne.symm (O.LC _ mem)), fun j y w e1' e2 e3 => ?_⟩, fun j y e1' => ?_, a4, R.inj⟩ ⟨h', _, rfl, fun b o off e => hsb.extBut b o (fun q => off.2.1 _ mem q.symm) e⟩ (fun h => nomatch h)
    · rcases getset j w e2 with ⟨rfl, rfl⟩ | ⟨hj, e2'⟩
      · rw [hs, h1] at e1'; cases e1'
      · obtain ⟨val', p1, p2⟩ := hmm j y w e1' e2' e3
        exact ⟨val', p1, a5 _ _ _ p2⟩
    · obtain ⟨c', vo', p1, p2, p3⟩ := R.cells j y e1'
      by_cases hj : j = k
      · subst hj
        have : y = x := by
          rw [hs, h1] at e1'
          exact (Prod.mk.inj (Option.some.inj e1')).1.symm
        subst this
        refine ⟨c, some val, e1, hc', fun w e2 e3 => ?_⟩
        rcases getset j w e2 with ⟨_, rfl⟩ | ⟨hj', _⟩
        · exact ⟨val, rfl, a5 _ _ _ r⟩
        · exact absurd rfl hj'
      · have hy : y ≠ x := by
          intro q; subst q
          rw [hs] at e1'
          exact hj (nodup_at O.nodup e1' h1)
        have hcc : c' ≠ c := by
          intro q; subst q
          exact hy (name_of_addr O.apart (mem_of_lookup p1) mem)
        refine ⟨c', vo', p1, p2.sameBut hsb hcc, fun w e2 e3 => ?_⟩
        rcases getset j w e2 with ⟨rfl, rfl⟩ | ⟨_, e2'⟩
        · exact absurd rfl hj
        · obtain ⟨val', q1, q2⟩ := p3 w e2' e3
          exact ⟨val', q1, a5 _ _ _ q2⟩
  | _ => cases hkd

noncomputable def owS (ow : Nat → Option Addr) (k : Nat) (a : Addr) : Nat → Option Addr := fun j => if j = k then some a else ow j
theorem wp_store {D : Dyn} {ow : Nat → Option Addr} {s : Shared} {E : Value → Shared → Prop} {x : Str} {k : Nat} {kd : NameKind} {v : V} {val : Value} {Q : Unit → Shared → Prop} (O : D.Ok G n F) (R : Rel G D ow σ s)
    (hk : idx F x = some (k, kd)) (hkd : (kd == .local || kd == .cell) = true) (hl : k < σ.length) (r : RepVar D ow s.heap k v val)
    (hQ : ∀ s', Rel G D ow (σ.set k v) s' → KX G false D ow s s' → Q () s') : wpAny (model G.prog G.w) D.A (storeName D.env x val) Q E s :=
  wp_storeT O R hk hkd hl r fun s' h1 h2 _ => hQ s' h1 h2
theorem owS_same {ow : Nat → Option Addr} {k : Nat} {a : Addr} : owS ow k a k = some a := if_pos rfl
theorem owS_ne {ow : Nat → Option Addr} {k j : Nat} {a : Addr} (h : j ≠ k) : owS ow k a j = ow j := if_neg h

/-- a list just made becomes the frame's own -/
theorem Rel.own_grow {D : Dyn} {ow : Nat → Option Addr} {s s₁ : Shared} {k : Nat} {a : Addr} (O : D.Ok G n F) (R : Rel G D ow σ s) (K : Kt G false s s₁) (ht : s.toks ≤ s₁.toks)
    (ha : s.heap.get? a = none) (hl : ∃ o, s₁.heap.get? a = some o) (hb : ∀ v ∈ σ, v ≠ .bound k) : Rel G D (owS ow k a) (σ.set k .unb) s₁ := by
  have R₁ := R.kt O K ht (Gl.tabKt R.tab K.strict)
  have hamu : ¬ D.mu a := fun h => by obtain ⟨o, ho⟩ := R.live a h; rw [ha] at ho; cases ho
  have howa : ∀ j, ow j ≠ some a := fun j h => by obtain ⟨o, ho⟩ := (R.own j a h).2.1; rw [ha] at ho; cases ho
  have badle : ∀ b, Bad D (owS ow k a) b → Bad D ow b ∨ s.heap.get? b = none := by
    rintro b (h | ⟨j, h⟩)
    · exact .inl (.inl h)
    · by_cases hj : j = k
      · rw [hj, owS_same] at h; cases h; exact .inr ha
      · rw [owS_ne hj] at h; exact .inl (.inr ⟨j, h⟩)
  have keep : ∀ b o, ¬ Bad D ow b → s.heap.get? b = some o → s₁.heap.get? b = some o := fun b o h e => K.strict b o e
  have rv : ∀ j v val, j ≠ k → v ∈ σ → RepVar D ow s.heap j v val → RepVar D (owS ow k a) s₁.heap j v val := by
    intro j v val hj hv r
    cases v with
    | own l => obtain ⟨b, items, rfl, e, x, y⟩ := r; exact ⟨b, items, rfl, (owS_ne hj).trans e, PlainList.mono x fun o q => K.strict b o q, y⟩
    | ownA l => obtain ⟨b, items, rfl, e, x, y⟩ := r; exact ⟨b, items, rfl, (owS_ne hj).trans e, IsList.mono x fun o q => K.strict b o q, y⟩
    | bound i =>
      obtain ⟨q, b, rfl, e, nb, x⟩ := r
      have hik : i ≠ k := fun h => hb _ hv (by rw [h])
      refine ⟨q, b, rfl, (owS_ne hik).trans e, fun h => ?_, keep q _ nb x⟩
      rcases badle q h with h' | h'
      · exact nb h'
      · rw [x] at h'; cases h'
    | loan l => exact r
    | list l => exact Rep.mono (v := .list l) r badle keep (by intro l e; cases e)
    | arr l => exact Rep.mono (v := .arr l) r badle keep (by intro l e; cases e)
    | tuple l => exact Rep.mono (v := .tuple l) r badle keep (by intro l e; cases e)
    | range b c d => exact Rep.mono (v := .range b c d) r badle keep (by intro l e; cases e)
    | _ => exact r
  have getset : ∀ j w, (σ.set k .unb)[j]? = some w → w ≠ .unb → j ≠ k ∧ σ[j]? = some w := by
    intro j w e hu
    by_cases hj : j = k
    · exfalso
      subst hj
      by_cases hlen : j < σ.length
      · rw [List.getElem?_set_self hlen] at e; exact hu (Option.some.inj e).symm
      · rw [List.getElem?_eq_none (by rw [List.length_set]; omega)] at e; cases e
    · rw [List.getElem?_set_ne (Ne.symm hj)] at e; exact ⟨hj, e⟩
  refine ⟨R₁.keep, R₁.toks, G.tabKeep R.tab badle fun b o _ e => K.strict b o e, R₁.live, ?_, ?_, fun j b h => ?_, fun j j' b h h' => ?_⟩
  · obtain ⟨m, hn, hm⟩ := R.ns
    refine ⟨m, hn.keeps K.strict, fun j y w e1 e2 e3 => ?_⟩
    obtain ⟨hj, e2'⟩ := getset j w e2 e3
    obtain ⟨val, p1, p2⟩ := hm j y w e1 e2' e3
    exact ⟨val, p1, rv j w val hj (List.mem_of_getElem? e2') p2⟩
  · intro j y e1
    obtain ⟨c, vo, p1, p2, p3⟩ := R.cells j y e1
    refine ⟨c, vo, p1, p2.keeps K.strict, fun w e2 e3 => ?_⟩
    obtain ⟨hj, e2'⟩ := getset j w e2 e3
    obtain ⟨val, q1, q2⟩ := p3 w e2' e3
    exact ⟨val, q1, rv j w val hj (List.mem_of_getElem? e2') q2⟩
  · by_cases hj : j = k
    · rw [hj, owS_same] at h; cases h
      refine ⟨hamu, hl, ?_⟩
      cases e : G.g₀.get? a with
      | none => rfl
      | some o => rw [R.keep a o e] at ha; cases ha
    · rw [owS_ne hj] at h; exact R₁.own j b h
  · by_cases hj : j = k <;> by_cases hj' : j' = k
    · rw [hj, hj']
    · rw [hj, owS_same] at h; rw [owS_ne hj'] at h'; cases h; exact absurd h' (howa j')
    · rw [owS_ne hj] at h; rw [hj', owS_same] at h'; cases h'; exact absurd h (howa j)
    · rw [owS_ne hj] at h; rw [owS_ne hj'] at h'; exact R.inj j j' b h h'

/-- a change of one own list -/
theorem Rel.own_upd {D : Dyn} {ow : Nat → Option Addr} {s : Shared} {k : Nat} {a : Addr} {h' : Heap} {tk : Nat} {w v : V} (O : D.Ok G n F) (R : Rel G D ow σ s) (ha : ow k = some a) (hsb : Heap.SameBut a s.heap h') (hl : ∃ o, h'.get? a = some o) (ht : s.toks ≤ tk)
    (hw : σ[k]? = some w) (hwu : w ≠ .unb) (hk : ∀ u, RepVar D ow s.heap k w u → RepVar D ow h' k v u) : Rel G D ow (σ.set k v) { s with heap := h', toks := tk } := by
  obtain ⟨o1, _, o3⟩ := R.own k a ha
  have hlen : k < σ.length := (List.getElem?_eq_some_iff.mp hw).1
  have keep : ∀ b o, b ≠ a → s.heap.get? b = some o → h'.get? b = some o := fun b o hb e => hsb.extBut b o hb e
  have rv : ∀ j w u, j ≠ k → RepVar D ow s.heap j w u → RepVar D ow h' j w u := by
    intro j w u hj r
    refine r.mono fun b o hb e => keep b o (fun q => ?_) e
    rcases hb with hb | hb
    · exact hb (q ▸ .inr ⟨k, ha⟩)
    · exact hj (R.inj j k b hb (q ▸ ha))
  have getset : ∀ j w, (σ.set k v)[j]? = some w → (j = k ∧ w = v) ∨ (j ≠ k ∧ σ[j]? = some w) := by
    intro j w e
    by_cases hj : j = k
    · subst hj
      rw [List.getElem?_set_self hlen] at e
      exact .inl ⟨rfl, (Option.some.inj e).symm⟩
    · rw [List.getElem?_set_ne (Ne.symm hj)] at e; exact .inr ⟨hj, e⟩
  refine ⟨fun b o e => keep b o (fun q => by rw [q, o3] at e; cases e) (R.keep b o e), Nat.le_trans R.toks ht, ?_, fun b hb => ?_, ?_, ?_, fun j b h => ?_, R.inj⟩
  · refine G.tabKeep R.tab (fun _ q => .inl q) fun b o hb e => keep b o (fun q => ?_) e
    rcases hb with hb | hb
    · exact o1 (q ▸ hb ▸ O.mutT)
    · exact hb (q ▸ .inr ⟨k, ha⟩)
  · obtain ⟨o, e⟩ := R.live b hb
    exact ⟨o, keep b o (fun q => o1 (q ▸ hb)) e⟩
  · obtain ⟨m, hn, hm⟩ := R.ns
    refine ⟨m, hn.at' fun o e => keep _ o (fun q => o1 (q ▸ O.mutL)) e, fun j y u e1 e2 e3 => ?_⟩
    rcases getset j u e2 with ⟨rfl, rfl⟩ | ⟨hj, e2'⟩
    · obtain ⟨val, p1, p2⟩ := hm j y w e1 hw hwu
      exact ⟨val, p1, hk val p2⟩
    · obtain ⟨val, p1, p2⟩ := hm j y u e1 e2' e3
      exact ⟨val, p1, rv j u val hj p2⟩
  · intro j y e1
    obtain ⟨c, vo, p1, ⟨oc, hoc, hdc⟩, p3⟩ := R.cells j y e1
    refine ⟨c, vo, p1, ⟨oc, keep c oc (fun q => o1 (q ▸ O.mutC _ (mem_of_lookup p1))) hoc, hdc⟩, fun u e2 e3 => ?_⟩
    rcases getset j u e2 with ⟨rfl, rfl⟩ | ⟨hj, e2'⟩
    · obtain ⟨val, q1, q2⟩ := p3 w hw hwu
      exact ⟨val, q1, hk val q2⟩
    · obtain ⟨val, q1, q2⟩ := p3 u e2' e3
      exact ⟨val, q1, rv j u val hj q2⟩
  · obtain ⟨q1, q2, q3⟩ := R.own j b h
    by_cases hb : b = a
    · subst hb; exact ⟨q1, hl, q3⟩
    · obtain ⟨o, e⟩ := q2; exact ⟨q1, ⟨o, keep b o hb e⟩, q3⟩

/-! statements -/
theorem FloRep.mono {mu mu' : Addr → Prop} {h : Heap} {f : Flo} {fl : Flow} (r : FloRep mu h f fl) (e : mu = mu') : FloRep mu' h f fl := e ▸ r
theorem XPost.trans {D : Dyn} {ow ow' : Nat → Option Addr} {s s' : Shared} {Q : Flo → List V → Prop} {σ' : List V} {fl : Flow} {s'' : Shared} (O : D.Ok G n F) (R' : Rel G D ow' σ' s') (K : KX G t D ow s s') (g : OwG ow ow' s)
    (x : XPost G t D ow' s' Q fl s'') : XPost G t D ow s Q fl s'' := by
  obtain ⟨f, σ'', ow'', h1, h2, h3, h4, h5⟩ := x
  exact ⟨f, σ'', ow'', h1, h2, K.trans h3 g, OwG.trans O R' K g h4, h5⟩
theorem x_nil {Q : Flo → List V → Prop} (h : Q .next σ) : EX G n F t [] σ Q := fun D ow s E O R =>
  wpAny_execs_nil ⟨.next, σ, ow, trivial, R, KX.refl .., (OwG.refl _ _), h⟩
theorem x_cons {st : Stmt} {ss : List Stmt} {Q : Flo → List V → Prop} (h : EX1 G n F t st σ (fun f σ' => match f with | .next => EX G n F t ss σ' Q | f => Q f σ')) : EX G n F t (st :: ss) σ Q := fun D ow s E O R => by
  refine wpAny_execs_cons (wpAny_mono (h D ow s E O R) (fun fl s' x => ?_) fun _ _ x => x)
  obtain ⟨f, σ', ow', h1, h2, h3, h4, h5⟩ := x
  cases f with
  | next =>
    cases fl <;> first | exact h1.elim | skip
    exact wpAny_mono (h5 D ow' s' E O h2) (fun fl' s'' y => y.trans O h2 h3 h4) fun _ _ y => y
  | brk =>
    cases fl <;> first | exact h1.elim | skip
    exact ⟨.brk, σ', ow', trivial, h2, h3, h4, h5⟩
  | cont =>
    cases fl <;> first | exact h1.elim | skip
    exact ⟨.cont, σ', ow', trivial, h2, h3, h4, h5⟩
  | ret v =>
    cases fl <;> first | exact h1.elim | skip
    exact ⟨.ret v, σ', ow', h1, h2, h3, h4, h5⟩
theorem EX.mono {ss : List Stmt} {Q Q' : Flo → List V → Prop} (h : EX G n F t ss σ Q) (hQ : ∀ f σ', Q f σ' → Q' f σ') : EX G n F t ss σ Q' := fun D ow s E O R =>
  wpAny_mono (h D ow s E O R) (fun fl s' x => by obtain ⟨f, σ', ow', h1, h2, h3, h4, h5⟩ := x; exact ⟨f, σ', ow', h1, h2, h3, h4, hQ f σ' h5⟩) fun _ _ x => x
theorem EX1.mono {st : Stmt} {Q Q' : Flo → List V → Prop} (h : EX1 G n F t st σ Q) (hQ : ∀ f σ', Q f σ' → Q' f σ') : EX1 G n F t st σ Q' := fun D ow s E O R =>
  wpAny_mono (h D ow s E O R) (fun fl s' x => by obtain ⟨f, σ', ow', h1, h2, h3, h4, h5⟩ := x; exact ⟨f, σ', ow', h1, h2, h3, h4, hQ f σ' h5⟩) fun _ _ x => x

theorem repVar_of {D : Dyn} {ow : Nat → Option Addr} {h : Heap} {k : Nat} {v : V} {val : Value} (r : Rep (Bad D ow) h v val) (hp : v.plain = true) : RepVar D ow h k v val := by
  cases v <;> first | exact r | cases hp
/-- x = e -/
theorem x_assign {x : Str} {e : Expr} {k : Nat} {kd : NameKind} {v : V} {p : Pos} {Q : Flo → List V → Prop} (hk : idx F x = some (k, kd)) (hkd : (kd == .local || kd == .cell) = true) (he : EP G n F t e σ v) (hp : v.plain = true) (hl : k < σ.length)
    (hsw : ∀ env : Env, env.scope = F → swapsWith e (some (.Name x p)) pos.line env = pure false) (h : Q .next (σ.set k v)) : EX1 G n F t (.Assign [.Name x p] e pos) σ Q := fun D ow s E O R => by
  refine wpAny_Assign_Name (he.go O R fun val s1 r1 K1 R1 => ?_) (hsw _ O.scope)
  exact wp_store O R1 hk hkd hl (repVar_of r1 hp) fun s2 R2 K2 => ⟨.next, _, ow, trivial, R2, (KX.of_kt K1).trans K2.weak (OwG.refl _ _), (OwG.refl _ _), h⟩
/-- x = a list that is to be turned -/
theorem x_assign_own {x : Str} {e : Expr} {k : Nat} {kd : NameKind} {l : List V} {p : Pos} {Q : Flo → List V → Prop} (hk : idx F x = some (k, kd)) (hkd : (kd == .local || kd == .cell) = true) (he : EF G n F false e σ l) (hl : k < σ.length) (hb : ∀ v ∈ σ, v ≠ .bound k)
    (hsw : ∀ env : Env, env.scope = F → swapsWith e (some (.Name x p)) pos.line env = pure false) (h : Q .next (σ.set k (.own l))) : EX1 G n F t (.Assign [.Name x p] e pos) σ Q := fun D ow s E O R => by
  refine wpAny_Assign_Name (wpAny_mono (wpAny_toks (he D ow s E O R)) (fun val s1 x => ?_) fun _ _ x => x.2) (hsw _ O.scope)
  obtain ⟨ht, ⟨a, items, rfl, ha, hpl, hr⟩, K1, T1⟩ := x
  have R1 := R.own_grow (k := k) (a := a) O K1 ht ha (by obtain ⟨q, ho⟩ := hpl; exact ⟨_, ho⟩) hb
  refine wp_store O R1 hk hkd (by rw [List.length_set]; exact hl) (v := .own l) ⟨a, items, rfl, owS_same, hpl, hr⟩ fun s2 R2 K2 => ?_
  have R2' : Rel G D (owS ow k a) (σ.set k (.own l)) s2 := by rw [List.set_set] at R2; exact R2
  have g : OwG ow (owS ow k a) s := fun j b hj => by
    by_cases q : j = k
    · rw [q, owS_same] at hj; cases hj; exact .inr ha
    · rw [owS_ne q] at hj; exact .inl ⟨j, hj⟩
  exact ⟨.next, _, owS ow k a, trivial, R2', (KX.of_kt K1).weak.trans K2.weak g, g, h⟩
theorem Rep.ret {D : Dyn} {ow : Nat → Option Addr} {h : Heap} {v : V} {val : Value} (r : Rep (Bad D ow) h v val) (hp : v.plain = true) : Rep D.mu h v val :=
  r.mono (fun b q => .inl (.inl q)) (fun _ _ _ e => e) (by intro l e; subst e; cases hp)
theorem x_return {e : Expr} {v : V} {Q : Flo → List V → Prop} (he : EP G n F t e σ v) (hp : v.plain = true) (h : Q (.ret v) σ) : EX1 G n F t (.Return (some e) pos) σ Q := fun D ow s E O R =>
  wpAny_Return_some (he.go O R fun val s1 r1 K1 R1 => ⟨.ret v, σ, ow, r1.ret hp, R1, KX.of_kt K1, (OwG.refl _ _), h⟩)
/-- the frame's own list handed back -/
theorem x_return_own {x : Str} {k : Nat} {kd : NameKind} {l : List V} {p : Pos} {Q : Flo → List V → Prop} (hk : idx F x = some (k, kd)) (hkd : (kd == .local || kd == .cell) = true) (hv : σ[k]? = some (.own l)) (hd : (x == ("__debug__" : Str)) = false)
    (h : Q (.ret (.list l)) σ) : EX1 G n F t (.Return (some (.Name x p)) pos) σ Q := fun D ow s E O R =>
  wpAny_Return_some (wpAny_Name (wp_name O R hk hkd hv (by intro e; cases e) fun val r => by
    obtain ⟨a, items, rfl, e, x, y⟩ := r
    exact ⟨.ret (.list l), σ, ow, ⟨a, items, rfl, (R.own k a e).1, x, y⟩, R, KX.refl .., (OwG.refl _ _), h⟩) hd)
theorem x_if {test : Expr} {body orelse : List Stmt} {b : Bool} {Q : Flo → List V → Prop} (ht : ET G n F t test σ b) (h1 : b = true → EX G n F t body σ Q) (h2 : b = false → EX G n F t orelse σ Q) : EX1 G n F t (.If test body orelse pos) σ Q := fun D ow s E O R => by
  refine wpAny_If (ht.go O R fun s1 K1 R1 => ?_)
  cases b
  · rw [if_neg Bool.false_ne_true]
    exact wpAny_mono (h2 rfl D ow s1 E O R1) (fun fl s2 y => y.trans O R1 (KX.of_kt K1) (OwG.refl _ _)) fun _ _ y => y
  · rw [if_pos rfl]
    exact wpAny_mono (h1 rfl D ow s1 E O R1) (fun fl s2 y => y.trans O R1 (KX.of_kt K1) (OwG.refl _ _)) fun _ _ y => y
theorem x_assert {test : Expr} {msg : Option Expr} {Q : Flo → List V → Prop} (ht : ET G n F t test σ true) (h : Q .next σ) : EX1 G n F t (.Assert test msg pos) σ Q := fun D ow s E O R =>
  wpAny_Assert_holds (ht.go O R fun s1 K1 R1 => ⟨rfl, .next, σ, ow, trivial, R1, KX.of_kt K1, (OwG.refl _ _), h⟩)
theorem x_continue {Q : Flo → List V → Prop} (h : Q .cont σ) : EX1 G n F t (.Continue pos) σ Q := fun D ow s E O R => wpAny_Continue ⟨.cont, σ, ow, trivial, R, KX.refl .., (OwG.refl _ _), h⟩
theorem x_break {Q : Flo → List V → Prop} (h : Q .brk σ) : EX1 G n F t (.Break pos) σ Q := fun D ow s E O R => wpAny_Break ⟨.brk, σ, ow, trivial, R, KX.refl .., (OwG.refl _ _), h⟩

/-! loops -/
theorem x_while {test : Expr} {body : List Stmt} {Q : Flo → List V → Prop} (I : Nat → List V → Prop)
    (turn : ∀ k σ, I k σ → ∃ b, ET G n F t test σ b ∧ (b = true → EX G n F t body σ (fun f σ' => match f with | .next | .cont => ∃ j, j < k ∧ I j σ' | .brk => Q .next σ' | .ret v => Q (.ret v) σ')) ∧ (b = false → Q .next σ))
    (k : Nat) (h : I k σ) : EX1 G n F t (.While test body [] pos) σ Q := fun D ow s E O R => by
  refine wpAny_While ?_
  refine codeAny_whileLoop (I := fun k s' => ∃ σ' ow', Rel G D ow' σ' s' ∧ KX G t D ow s s' ∧ OwG ow ow' s ∧ I k σ') (fun k s1 ⟨σ1, ow1, R1, K1, g1, h1⟩ => ?_) k ⟨σ, ow, R, KX.refl .., (OwG.refl _ _), h⟩
  obtain ⟨b, hb, ht, hf⟩ := turn k σ1 h1
  refine hb.go O R1 fun s2 K2 R2 => ?_
  have K12 := K1.trans (KX.of_kt K2) g1
  cases b
  · rw [if_neg Bool.false_ne_true]
    exact wpAny_execs_nil ⟨.next, σ1, ow1, trivial, R2, K12, g1, hf rfl⟩
  · rw [if_pos rfl]
    refine wpAny_mono (ht rfl D ow1 s2 _ O R2) (fun fl s3 y => ?_) fun _ _ y => y
    have y' := y.trans O R2 K12 g1
    obtain ⟨f, σ3, ow3, p1, p2, p3, p4, p5⟩ := y'
    cases f with
    | next =>
      cases fl <;> first | exact p1.elim | skip
      obtain ⟨j, hj, hI⟩ := p5; exact ⟨j, hj, σ3, ow3, p2, p3, p4, hI⟩
    | cont =>
      cases fl <;> first | exact p1.elim | skip
      obtain ⟨j, hj, hI⟩ := p5; exact ⟨j, hj, σ3, ow3, p2, p3, p4, hI⟩
    | brk =>
      cases fl <;> first | exact p1.elim | skip
      exact ⟨.next, σ3, ow3, trivial, p2, p3, p4, p5⟩
    | ret v =>
      cases fl <;> first | exact p1.elim | skip
      exact ⟨.ret v, σ3, ow3, p1, p2, p3, p4, p5⟩
end
theorem RepA.plain {v : V} {val : Value} (r : RepA v val) : v.plain = true := by
  cases v <;> first | rfl | exact r.elim

noncomputable def Dyn.more (D : Dyn) (wr : List Addr) : Dyn := { D with mu := fun b => D.mu b ∨ b ∈ wr }
section
variable {G : Gl} {n : Nat} {F : Scope} {t : Bool} {σ : List V} {pos : Pos}

theorem Dyn.Ok.more {D : Dyn} (O : D.Ok G n F) (wr : List Addr) : (D.more wr).Ok G n F :=
  ⟨O.scope, O.kind, O.glob, O.blt, O.room, .inl O.mutL, fun c hc => .inl (O.mutC c hc), .inl O.mutT, O.noL, O.noC, O.LT, O.CT, O.LC, O.apart, O.nodup, O.code⟩

theorem RepVar.bad_le {D D' : Dyn} {ow : Nat → Option Addr} {h : Heap} {k : Nat} {v : V} {val : Value} (r : RepVar D ow h k v val) (hb : ∀ b, Bad D' ow b → Bad D ow b ∨ h.get? b = none) : RepVar D' ow h k v val := by
  cases v with
  | own l => exact r
  | ownA l => exact r
  | bound j =>
    obtain ⟨q, a, rfl, e, nq, x⟩ := r
    refine ⟨q, a, rfl, e, fun z => ?_, x⟩
    rcases hb q z with z' | z'
    · exact nq z'
    · rw [x] at z'; cases z'
  | loan l => exact r
  | list l => exact Rep.mono (v := .list l) r hb (fun _ _ _ e => e) (by intro l e; cases e)
  | arr l => exact Rep.mono (v := .arr l) r hb (fun _ _ _ e => e) (by intro l e; cases e)
  | tuple l => exact Rep.mono (v := .tuple l) r hb (fun _ _ _ e => e) (by intro l e; cases e)
  | range b c d => exact Rep.mono (v := .range b c d) r hb (fun _ _ _ e => e) (by intro l e; cases e)
  | _ => exact r

/-- fewer things that may turn -/
theorem Rel.less {D : Dyn} {wr : List Addr} {ow : Nat → Option Addr} {s : Shared} (R : Rel G (D.more wr) ow σ s) : Rel G D ow σ s := by
  have hb : ∀ b, Bad D ow b → Bad (D.more wr) ow b ∨ s.heap.get? b = none := by
    rintro b (h | h)
    · exact .inl (.inl (.inl h))
    · exact .inl (.inr h)
  refine ⟨R.keep, R.toks, G.tabKeep R.tab hb fun _ _ _ e => e, fun b h => R.live b (.inl h), ?_, fun k x e => ?_, fun k a e => ?_, R.inj⟩
  · obtain ⟨m, hn, hm⟩ := R.ns
    exact ⟨m, hn, fun k x v e1 e2 e3 => by obtain ⟨val, p1, p2⟩ := hm k x v e1 e2 e3; exact ⟨val, p1, p2.bad_le hb⟩⟩
  · obtain ⟨c, vo, p1, p2, p3⟩ := R.cells k x e
    exact ⟨c, vo, p1, p2, fun v e2 e3 => by obtain ⟨val, q1, q2⟩ := p3 v e2 e3; exact ⟨val, q1, q2.bad_le hb⟩⟩
  · obtain ⟨p1, p2, p3⟩ := R.own k a e; exact ⟨fun h => p1 (.inl h), p2, p3⟩
/-- things that were not there before may turn besides -/
theorem Rel.grow {D : Dyn} {wr : List Addr} {ow : Nat → Option Addr} {s s₂ : Shared} (O : D.Ok G n F) (R : Rel G D ow σ s) (K : Kt G false s s₂) (ht : s.toks ≤ s₂.toks) (hw : ∀ b ∈ wr, s.heap.get? b = none) (hl : ∀ b ∈ wr, ∃ o, s₂.heap.get? b = some o) :
    Rel G (D.more wr) ow σ s₂ := by
  have R₂ := R.kt O K ht (Gl.tabKt R.tab K.strict)
  have hb : ∀ b, Bad (D.more wr) ow b → Bad D ow b ∨ s.heap.get? b = none := by
    rintro b ((h | h) | h)
    · exact .inl (.inl h)
    · exact .inr (hw b h)
    · exact .inl (.inr h)
  have rv : ∀ k v val, RepVar D ow s.heap k v val → RepVar (D.more wr) ow s₂.heap k v val := fun k v val r => (r.bad_le hb).mono fun b o _ e => K.strict b o e
  refine ⟨R₂.keep, R₂.toks, G.tabKeep R.tab hb fun b o _ e => K.strict b o e, fun b h => ?_, ?_, fun k x e => ?_, fun k a e => ?_, R.inj⟩
  · rcases h with h | h
    · exact R₂.live b h
    · exact hl b h
  · obtain ⟨m, hn, hm⟩ := R.ns
    exact ⟨m, hn.keeps K.strict, fun k x v e1 e2 e3 => by obtain ⟨val, p1, p2⟩ := hm k x v e1 e2 e3; exact ⟨val, p1, rv k v val p2⟩⟩
  · obtain ⟨c, vo, p1, p2, p3⟩ := R.cells k x e
    exact ⟨c, vo, p1, p2.keeps K.strict, fun v e2 e3 => by obtain ⟨val, q1, q2⟩ := p3 v e2 e3; exact ⟨val, q1, rv k v val q2⟩⟩
  · obtain ⟨p1, p2, p3⟩ := R₂.own k a e
    refine ⟨fun h => ?_, p2, p3⟩
    rcases h with h | h
    · exact p1 h
    · obtain ⟨_, ⟨o, ho⟩, _⟩ := R.own k a e
      rw [hw a h] at ho; cases ho
/-- the iterator turns -/
theorem Rel.turn {D : Dyn} {wr : List Addr} {ow : Nat → Option Addr} {s : Shared} {h' : Heap} {tk : Nat} (O : D.Ok G n F) (R : Rel G (D.more wr) ow σ s) (hk : ∀ b o, b ∉ wr → s.heap.get? b = some o → h'.get? b = some o) (ht : s.toks ≤ tk) (hl : ∀ b ∈ wr, ∃ o, h'.get? b = some o)
    (hg : ∀ b ∈ wr, G.g₀.get? b = none) (hL : D.env.locals ∉ wr) (hC : ∀ c ∈ D.env.cells, c.2 ∉ wr) (hT : G.tab ∉ wr) : Rel G (D.more wr) ow σ { s with heap := h', toks := tk } := by
  have rv : ∀ k v val, RepVar (D.more wr) ow s.heap k v val → RepVar (D.more wr) ow h' k v val := fun k v val r => r.mono fun b o hb e => hk b o (fun q => by
    rcases hb with hb | hb
    · exact hb (.inl (.inr q))
    · exact (R.own k b hb).1 (.inr q)) e
  refine ⟨fun b o e => hk b o (fun q => by rw [hg b q] at e; cases e) (R.keep b o e), Nat.le_trans R.toks ht, ?_, fun b h => ?_, ?_, fun k x e => ?_, fun k a e => ?_, R.inj⟩
  · refine G.tabKeep R.tab (fun _ q => .inl q) fun b o hb e => hk b o (fun q => ?_) e
    rcases hb with hb | hb
    · exact hT (hb ▸ q)
    · exact hb (.inl (.inr q))
  · by_cases q : b ∈ wr
    · exact hl b q
    · obtain ⟨o, e⟩ := R.live b h; exact ⟨o, hk b o q e⟩
  · obtain ⟨m, hn, hm⟩ := R.ns
    exact ⟨m, hn.at' fun o e => hk _ o hL e, fun k x v e1 e2 e3 => by obtain ⟨val, p1, p2⟩ := hm k x v e1 e2 e3; exact ⟨val, p1, rv k v val p2⟩⟩
  · obtain ⟨c, vo, p1, ⟨oc, hoc, hd⟩, p3⟩ := R.cells k x e
    exact ⟨c, vo, p1, ⟨oc, hk c oc (hC _ (mem_of_lookup p1)) hoc, hd⟩, fun v e2 e3 => by obtain ⟨val, q1, q2⟩ := p3 v e2 e3; exact ⟨val, q1, rv k v val q2⟩⟩
  · obtain ⟨p1, ⟨o, p2⟩, p3⟩ := R.own k a e
    exact ⟨p1, ⟨o, hk a o (fun q => p1 (.inr q)) p2⟩, p3⟩

theorem wp_forW {D : Dyn} {ow : Nat → Option Addr} {s s₂ : Shared} {x : Str} {k : Nat} {kd : NameKind} {p : Pos} {body : List Stmt} {Q : Flo → List V → Prop} {RE : Value → Shared → Prop} {it : Addr} {fp wr : List Addr} {N : Nat} {P : Nat → Value → Prop} {St : Nat → Heap → Prop}
    (O : D.Ok G n F) (R : Rel G D ow σ s) (K : Kt G false s s₂) (ht : s.toks ≤ s₂.toks) (W : Walks G.prog G.w D.A it fp wr N P St) (hst : St 0 s₂.heap)
    (hwr : ∀ b ∈ wr, s.heap.get? b = none) (hfp : ∀ b ∈ fp, b ∈ wr ∨ (¬ Bad D ow b ∧ ∃ o, s.heap.get? b = some o)) (hlive : ∀ i h, St i h → ∀ b ∈ wr, ∃ o, h.get? b = some o)
    (hk : idx F x = some (k, kd)) (hkd : (kd == .local || kd == .cell) = true) (vs : Nat → V) (hP : ∀ i v, i < N → P i v → RepA (vs i) v) (I : Nat → List V → Prop) (h0 : I 0 σ)
    (step : ∀ i σ', i < N → I i σ' → k < σ'.length ∧ EX G n F t body (σ'.set k (vs i)) (fun f σ'' => match f with | .next | .cont => I (i + 1) σ'' | .brk => Q .next σ'' | .ret v => Q (.ret v) σ''))
    (done : ∀ σ', I N σ' → Q .next σ') (hgo : ∀ v, letOwnedTupleGo (.Name x p) (.ref it) v = pure ()) :
    codeAny (model G.prog G.w) D.A (.forLoop (.Name x p) (.ref it) body [] D.env) (fun r s' => match r with | .ok f => XPost G t D ow s Q f s' | .error e => RE e s') s₂ := by
  have O' := O.more wr
  have R₂ := R.grow O K ht hwr (hlive 0 _ hst)
  have dead : ∀ b ∈ wr, ∀ o, s.heap.get? b ≠ some o := fun b hb o e => by rw [hwr b hb] at e; cases e
  have hg : ∀ b ∈ wr, G.g₀.get? b = none := fun b hb => by
    cases e : G.g₀.get? b with
    | none => rfl
    | some o => exact absurd (R.keep b o e) (dead b hb o)
  have hL : D.env.locals ∉ wr := fun h => by obtain ⟨o, e⟩ := R.live _ O.mutL; exact dead _ h o e
  have hC : ∀ c ∈ D.env.cells, c.2 ∉ wr := fun c hc h => by obtain ⟨o, e⟩ := R.live _ (O.mutC c hc); exact dead _ h o e
  have hT : G.tab ∉ wr := fun h => by obtain ⟨o, e⟩ := G.tabLive R.tab; exact dead _ h o e
  have KX2 : KX G t D ow s s₂ := (KX.of_kt K).weak
  -- an iterator's object is off the frame
  have offw : ∀ (ow' : Nat → Option Addr) (s' : Shared) (σ' : List V), Rel G (D.more wr) ow' σ' s' → OwG ow ow' s → ∀ b ∈ fp, Off G t (D.more wr) ow' b := by
    intro ow' s' σ' R' g b hb
    have live : b ∉ wr → ∃ o, s.heap.get? b = some o := fun q => (hfp b hb).elim (fun h => absurd h q) (·.2)
    refine ⟨fun q => ?_, fun c hc q => ?_, fun j q => ?_, fun _ q => ?_⟩
    · rcases hfp b hb with h | h
      · exact hL (q ▸ h)
      · exact h.1 (q ▸ .inl O.mutL)
    · rcases hfp b hb with h | h
      · exact hC c hc (q ▸ h)
      · exact h.1 (q ▸ .inl (O.mutC c hc))
    · have nm := (R'.own j b q).1
      have nw : b ∉ wr := fun h => nm (.inr h)
      rcases g j b q with ⟨j', q'⟩ | q'
      · rcases hfp b hb with h | h
        · exact nw h
        · exact h.1 (.inr ⟨j', q'⟩)
      · obtain ⟨o, e⟩ := live nw; rw [q'] at e; cases e
    · rcases hfp b hb with h | h
      · exact hT (q ▸ h)
      · exact h.1 (q ▸ .inl O.mutT)
  refine codeAny_forLoop (I := fun m s' => ∃ i σ' ow', m = N - i ∧ i ≤ N ∧ St i s'.heap ∧ Rel G (D.more wr) ow' σ' s' ∧ KX G t D ow s s' ∧ OwG ow ow' s ∧ I i σ')
    (fun m s1 ⟨i, σ1, ow1, hm, hi, st1, R1, K1, g1, I1⟩ => ?_) N ⟨0, σ, ow, rfl, Nat.zero_le _, hst, R₂, KX2, OwG.refl _ _, h0⟩ hgo
  by_cases hlt : i < N
  · refine wpAny_with_toks (n := s1.toks) (Nat.le_refl _) (W.item i s1 _ _ hlt st1 fun v h' tk hPv st' hk' htk => ?_)
    have R1' : Rel G (D.more wr) ow1 σ1 { s1 with heap := h', toks := tk } := R1.turn O hk' htk (hlive _ _ st') hg hL hC hT
    have KXi : KX G t D ow s { s1 with heap := h', toks := tk } := by
      obtain ⟨h1, tk1, rfl, kk⟩ := K1
      refine ⟨h', tk, rfl, fun b o off e => hk' b o (fun q => by rw [hwr b q] at e; cases e) (kk b o off e)⟩
    obtain ⟨hlen, hbody⟩ := step i σ1 hlt I1
    have ra := hP i v hlt hPv
    refine wpAny_assign_Name (wp_store (D := D.more wr) O' R1' hk hkd hlen (repVar_of (repA_rep ra) ra.plain) fun s3 R3 K3 => ?_)
    refine wpAny_mono (hbody (D.more wr) ow1 s3 _ O' R3) (fun fl s4 y => ?_) fun _ _ y => y
    obtain ⟨f, σ4, ow4, p1, p2, p3, p4, p5⟩ := y
    -- composed growth
    have K3' : KX G t D ow s s3 := by
      have K3'' : KX G t D ow1 { s1 with heap := h', toks := tk } s3 := (show KX G false D ow1 _ s3 from K3).weak
      exact KXi.trans K3'' g1
    have R3l : Rel G D ow1 (σ1.set k (vs i)) s3 := R3.less
    have K4 : KX G t D ow s s4 := K3'.trans (show KX G t D ow1 s3 s4 from p3) g1
    have g4 : OwG ow ow4 s := OwG.trans O R3l K3' g1 p4
    have st3 : St (i + 1) s3.heap := by
      obtain ⟨h3, tk3, e3, k3⟩ := K3
      subst e3
      exact W.frame _ _ _ st' fun b hb o e => k3 b o (by
        have := offw ow1 _ _ R1' g1 b hb
        exact ⟨this.1, this.2.1, this.2.2.1, by intro h; cases h⟩) e
    have st4 : St (i + 1) s4.heap := by
      obtain ⟨h4, tk4, e4, k4⟩ := p3
      subst e4
      exact W.frame _ _ _ st3 fun b hb o e => k4 b o (offw ow1 _ _ R3 g1 b hb) e
    have R4l : Rel G D ow4 σ4 s4 := p2.less
    have shrink : ∀ {v : V} {val : Value}, Rep (D.more wr).mu s4.heap v val → Rep D.mu s4.heap v val := by
      intro v val r
      cases v with
      | loan l => exact r
      | list l => exact Rep.mono (v := .list l) r (fun b q => .inl (.inl q)) (fun _ _ _ e => e) (by intro l e; cases e)
      | arr l => exact Rep.mono (v := .arr l) r (fun b q => .inl (.inl q)) (fun _ _ _ e => e) (by intro l e; cases e)
      | tuple l => exact Rep.mono (v := .tuple l) r (fun b q => .inl (.inl q)) (fun _ _ _ e => e) (by intro l e; cases e)
      | range b c d => exact Rep.mono (v := .range b c d) r (fun b q => .inl (.inl q)) (fun _ _ _ e => e) (by intro l e; cases e)
      | _ => exact r
    have again : I (i + 1) σ4 → ∃ m', m' < m ∧ ∃ i σ' ow', m' = N - i ∧ i ≤ N ∧ St i s4.heap ∧ Rel G (D.more wr) ow' σ' s4 ∧ KX G t D ow s s4 ∧ OwG ow ow' s ∧ I i σ' := fun hI =>
      ⟨N - (i + 1), by omega, i + 1, σ4, ow4, rfl, hlt, st4, p2, K4, g4, hI⟩
    cases f with
    | next =>
      cases fl <;> first | exact p1.elim | skip
      exact again p5
    | cont =>
      cases fl <;> first | exact p1.elim | skip
      exact again p5
    | brk =>
      cases fl <;> first | exact p1.elim | skip
      exact ⟨.next, σ4, ow4, trivial, R4l, K4, g4, p5⟩
    | ret v =>
      cases fl <;> first | exact p1.elim | skip
      exact ⟨.ret v, σ4, ow4, shrink p1, R4l, K4, g4, p5⟩
  · have e : i = N := by omega
    subst e
    refine wpAny_with_toks (n := s1.toks) (Nat.le_refl _) (W.done s1 _ _ st1 fun h' tk hk' htk => ?_)
    refine wpAny_execs_nil ?_
    -- the iterator may be gone: only what was there before is asked
    have R1l := R1.less
    have keepS : ∀ b o, b ∉ wr → s1.heap.get? b = some o → h'.get? b = some o := hk'
    have KXi : KX G t D ow s { s1 with heap := h', toks := tk } := by
      obtain ⟨h1, tk1, rfl, kk⟩ := K1
      refine ⟨h', tk, rfl, fun b o off e => hk' b o (fun q => by rw [hwr b q] at e; cases e) (kk b o off e)⟩
    refine ⟨.next, σ1, ow1, trivial, ?_, KXi, g1, done σ1 I1⟩
    have rv : ∀ k v val, RepVar (D.more wr) ow1 s1.heap k v val → RepVar (D.more wr) ow1 h' k v val := fun k v val r => r.mono fun b o hb e => hk' b o (fun q => by
      rcases hb with hb | hb
      · exact hb (.inl (.inr q))
      · exact (R1.own k b hb).1 (.inr q)) e
    have hb : ∀ b, Bad D ow1 b → Bad (D.more wr) ow1 b ∨ h'.get? b = none := by
      rintro b (h | h)
      · exact .inl (.inl (.inl h))
      · exact .inl (.inr h)
    have muw : ∀ b, D.mu b → b ∉ wr := fun b h q => by obtain ⟨o, e⟩ := R.live b h; exact dead b q o e
    refine ⟨fun b o e => hk' b o (fun q => by rw [hg b q] at e; cases e) (R1.keep b o e), Nat.le_trans R1.toks htk, ?_, fun b h => ?_, ?_, fun k x e => ?_, fun k a e => ?_, R1.inj⟩
    · refine G.tabKeep R1.tab (fun b hb => ?_) fun b o hb e => hk' b o (fun q => ?_) e
      · rcases hb with h | h
        · exact .inl (.inl (.inl h))
        · exact .inl (.inr h)
      · rcases hb with hb | hb
        · exact hT (hb ▸ q)
        · exact hb (.inl (.inr q))
    · obtain ⟨o, e⟩ := R1l.live b h; exact ⟨o, hk' b o (muw b h) e⟩
    · obtain ⟨m, hn, hm⟩ := R1.ns
      exact ⟨m, hn.at' fun o e => hk' _ o hL e, fun k x v e1 e2 e3 => by obtain ⟨val, p1, p2⟩ := hm k x v e1 e2 e3; exact ⟨val, p1, (rv k v val p2).bad_le hb⟩⟩
    · obtain ⟨c, vo, p1, ⟨oc, hoc, hd⟩, p3⟩ := R1.cells k x e
      exact ⟨c, vo, p1, ⟨oc, hk' c oc (hC _ (mem_of_lookup p1)) hoc, hd⟩, fun v e2 e3 => by obtain ⟨val, q1, q2⟩ := p3 v e2 e3; exact ⟨val, q1, (rv k v val q2).bad_le hb⟩⟩
    · obtain ⟨p1, ⟨o, p2⟩, p3⟩ := R1.own k a e
      exact ⟨fun h => p1 (.inl h), ⟨o, hk' a o (fun q => p1 (.inr q)) p2⟩, p3⟩
end
section
variable {G : Gl} {n : Nat} {F : Scope} {t : Bool} {σ : List V} {pos : Pos}

/-- what the turns of a loop leave -/
noncomputable def Turn (I : List V → Prop) (Q : Flo → List V → Prop) (f : Flo) (σ' : List V) : Prop :=
  match f with
  | .next | .cont => I σ'
  | .brk => Q .next σ'
  | .ret v => Q (.ret v) σ'

theorem Kt.pushed {s : Shared} (o : Obj) : Kt G false s { s with heap := s.heap.push o } := ⟨_, s.toks, rfl, fun _ _ _ e => Heap.get?_push_of_some _ e⟩
theorem alive {s : Shared} {a : Addr} {items : Array Value} (h : s.heap.PlainList a items) : ∃ o, s.heap.get? a = some o := by obtain ⟨k, e⟩ := h; exact ⟨_, e⟩

theorem x_for_list {x : Str} {iter : Expr} {l : List V} {k : Nat} {kd : NameKind} {p : Pos} {body : List Stmt} {Q : Flo → List V → Prop} (I : Nat → List V → Prop) (hk : idx F x = some (k, kd)) (hkd : (kd == .local || kd == .cell) = true)
    (hi : EP G n F t iter σ (.list l)) (hs : ∀ env v, foldedSetIterable iter env v = pure v) (h0 : I 0 σ)
    (step : ∀ i v σ', l[i]? = some v → I i σ' → k < σ'.length ∧ EX G n F t body (σ'.set k v) (Turn (I (i + 1)) Q)) (done : ∀ σ', I l.length σ' → Q .next σ') : EX1 G n F t (.For (.Name x p) iter body [] pos) σ Q := fun D ow s E O R => by
  refine wpAny_For (hi.go O R fun val s1 r1 K1 R1 => ?_) (hs D.env)
  obtain ⟨a, items, rfl, na, hp, hr⟩ := r1
  have hlen := hr.length
  refine wpAny_pyIter_list hp.isList ?_
  obtain ⟨q0, ha⟩ := id hp
  have hne : a ≠ s1.heap.objs.size := Nat.ne_of_lt (Heap.lt_size ha)
  have W := Walks.list (prog := G.prog) (w := G.w) O.room.2.2 s1.heap.objs.size a hne items.toArray
  have fin := wp_forW (Q := Q) (body := body) (p := p) (RE := fun e s' => cameBackBy (model G.prog G.w) D.A D.env E e s') (s₂ := { s1 with heap := s1.heap.push { cls := .type "list_iterator", data := .fields #[.ref a, .int 0 0] } })
    O R1 (Kt.pushed _) (Nat.le_refl _) W ⟨⟨_, Heap.get?_push_size _ rfl, rfl, rfl⟩, hp.isList.push _⟩
    (fun b hb => by rw [List.mem_singleton.mp hb]; exact fresh_none _) (fun b hb => by
      rcases List.mem_cons.mp hb with h | h
      · exact .inl (by rw [h]; exact List.mem_singleton.mpr rfl)
      · exact .inr (by rw [List.mem_singleton.mp h]; exact ⟨na, _, ha⟩))
    (fun i h st b hb => by rw [List.mem_singleton.mp hb]; obtain ⟨o, e, _⟩ := st.1; exact ⟨o, e⟩) hk hkd (fun i => (l[i]?).getD .unb)
    (fun i v hi' hv => by
      have hv' : items[i]? = some v := by simpa using hv
      obtain ⟨w, e1, e2⟩ := hr.getV hv'
      rw [e1]; exact e2) I h0
    (fun i σ' hi' hI => by
      have hi'' : i < l.length := by rw [List.size_toArray, hlen] at hi'; exact hi'
      have e : l[i]? = some l[i] := List.getElem?_eq_getElem hi''
      have := step i _ σ' e hI
      rw [e]
      exact ⟨this.1, this.2.mono fun f σ'' h => by cases f <;> exact h⟩)
    (fun σ' hI => done σ' (by rw [List.size_toArray, hlen] at hI; exact hI)) (fun v => rfl)
  exact codeAny_mono fin fun r s' h => by
    cases r with
    | ok f => exact XPost.trans O R1 (KX.of_kt K1) (OwG.refl _ _) h
    | error e => exact h

theorem x_for_str {x : Str} {iter : Expr} {y : Str} {k : Nat} {kd : NameKind} {p : Pos} {body : List Stmt} {Q : Flo → List V → Prop} (I : Nat → List V → Prop) (hk : idx F x = some (k, kd)) (hkd : (kd == .local || kd == .cell) = true)
    (hi : EP G n F t iter σ (.str y)) (hs : ∀ env v, foldedSetIterable iter env v = pure v) (ha : y.cps.all (· < 128) = true) (h0 : I 0 σ)
    (step : ∀ i c σ', y.cps[i]? = some c → I i σ' → k < σ'.length ∧ EX G n F t body (σ'.set k (.str ⟨#[c]⟩)) (Turn (I (i + 1)) Q)) (done : ∀ σ', I y.cps.size σ' → Q .next σ') : EX1 G n F t (.For (.Name x p) iter body [] pos) σ Q := fun D ow s E O R => by
  refine wpAny_For (hi.go O R fun val s1 r1 K1 R1 => ?_) (hs D.env)
  obtain ⟨tk, rfl⟩ := r1
  refine wpAny_pyIter_ascii ha ?_
  have W := Walks.strAscii (prog := G.prog) (w := G.w) O.room.2.2 s1.heap.objs.size y tk
  have fin := wp_forW (Q := Q) (body := body) (p := p) (RE := fun e s' => cameBackBy (model G.prog G.w) D.A D.env E e s') (s₂ := { s1 with heap := s1.heap.push { cls := .type "str_ascii_iterator", data := .fields #[.str y tk, .int 0 0] } })
    O R1 (Kt.pushed _) (Nat.le_refl _) W ⟨_, Heap.get?_push_size _ rfl, rfl, rfl⟩
    (fun b hb => by rw [List.mem_singleton.mp hb]; exact fresh_none _) (fun b hb => .inl hb)
    (fun i h st b hb => by rw [List.mem_singleton.mp hb]; obtain ⟨o, e, _⟩ := st; exact ⟨o, e⟩) hk hkd (fun i => .str ⟨#[(y.cps[i]?).getD 0]⟩)
    (fun i v hi' hv => by
      obtain ⟨c, u, e1, e2⟩ := hv
      subst e2
      show ∃ t, _ = _
      rw [e1]
      exact ⟨u, rfl⟩) I h0
    (fun i σ' hi' hI => by
      have e : y.cps[i]? = some y.cps[i] := Array.getElem?_eq_getElem hi'
      have := step i _ σ' e hI
      rw [e]
      exact ⟨this.1, this.2.mono fun f σ'' h => by cases f <;> exact h⟩)
    done (fun v => rfl)
  exact codeAny_mono fin fun r s' h => by
    cases r with
    | ok f => exact XPost.trans O R1 (KX.of_kt K1) (OwG.refl _ _) h
    | error e => exact h

theorem x_for_range {x : Str} {iter : Expr} {a b : Int} {k : Nat} {kd : NameKind} {p : Pos} {body : List Stmt} {Q : Flo → List V → Prop} (I : Nat → List V → Prop) (hk : idx F x = some (k, kd)) (hkd : (kd == .local || kd == .cell) = true)
    (hi : EP G n F t iter σ (.range a b 1)) (hs : ∀ env v, foldedSetIterable iter env v = pure v) (hsm : Builtin.Range.small a b 1 = true) (h0 : I 0 σ)
    (step : ∀ (i : Nat) σ', i < (b - a).toNat → I i σ' → k < σ'.length ∧ EX G n F t body (σ'.set k (.int (a + i))) (Turn (I (i + 1)) Q)) (done : ∀ σ', I (b - a).toNat σ' → Q .next σ') : EX1 G n F t (.For (.Name x p) iter body [] pos) σ Q := fun D ow s E O R => by
  refine wpAny_For (hi.go O R fun val s1 r1 K1 R1 => ?_) (hs D.env)
  obtain ⟨r, u1, u2, u3, rfl, na, hp⟩ := r1
  refine wpAny_pyIter_range hp hsm ?_
  have hsz := rangeSize_nat a b
  have W := Walks.range (prog := G.prog) (w := G.w) O.room.2.2 s1.heap.objs.size a 1 (b - a).toNat
  have fin := wp_forW (Q := Q) (body := body) (p := p) (RE := fun e s' => cameBackBy (model G.prog G.w) D.A D.env E e s') (s₂ := { s1 with heap := s1.heap.push { cls := .type "range_iterator", data := .fields #[rawInt a, rawInt (Builtin.Range.rangeSize a b 1), rawInt 1] } })
    O R1 (Kt.pushed _) (Nat.le_refl _) W (by
      have e0 : a + ((0 : Nat) : Int) * 1 = a := by simp
      have e1 : (((b - a).toNat : Nat) : Int) - ((0 : Nat) : Int) = Builtin.Range.rangeSize a b 1 := by rw [hsz]; simp
      show IsRangeIter _ _ (a + ((0 : Nat) : Int) * 1) ((((b - a).toNat : Nat) : Int) - ((0 : Nat) : Int)) 1
      rw [e0, e1]
      exact Heap.get?_push_size s1.heap (o := { cls := .type "range_iterator", data := .fields #[rawInt a, rawInt (Builtin.Range.rangeSize a b 1), rawInt 1] }) rfl)
    (fun b hb => by rw [List.mem_singleton.mp hb]; exact fresh_none _) (fun b hb => .inl hb)
    (fun i h st b hb => by rw [List.mem_singleton.mp hb]; exact ⟨_, st⟩) hk hkd (fun i => .int (a + i))
    (fun i v hi' hv => by
      obtain ⟨u, e2⟩ := hv
      subst e2
      exact ⟨u, by simp⟩) I h0
    (fun i σ' hi' hI => by
      have := step i σ' hi' hI
      exact ⟨this.1, this.2.mono fun f σ'' h => by cases f <;> exact h⟩)
    done (fun v => rfl)
  exact codeAny_mono fin fun r s' h => by
    cases r with
    | ok f => exact XPost.trans O R1 (KX.of_kt K1) (OwG.refl _ _) h
    | error e => exact h

/-! own lists -/
theorem own_push {D : Dyn} {ow : Nat → Option Addr} {s : Shared} {k : Nat} {l : List V} {a : Addr} {items : List Value} {v : V} {val : Value} {h' : Heap} (O : D.Ok G n F) (R : Rel G D ow σ s) (hv : σ[k]? = some (.own l)) (ha : ow k = some a) (hr : Reps l items) (rv : RepA v val)
    (hl : h'.PlainList a (items.toArray.push val)) (hsb : Heap.SameBut a s.heap h') : Rel G D ow (σ.set k (.own (l ++ [v]))) { s with heap := h' } :=
  R.own_upd O ha hsb (by obtain ⟨q, e⟩ := hl; exact ⟨_, e⟩) (Nat.le_refl _) hv (by intro e; cases e) fun u r => by
    obtain ⟨a', items', rfl, e, _, _⟩ := r
    rw [ha] at e; cases e
    exact ⟨a, items ++ [val], rfl, ha, by simpa using hl, hr.append ⟨rv, trivial⟩⟩
theorem kx_own {D : Dyn} {ow : Nat → Option Addr} {s : Shared} {k : Nat} {a : Addr} {h' : Heap} {tk : Nat} (ha : ow k = some a) (hsb : Heap.SameBut a s.heap h') : KX G t D ow s { s with heap := h', toks := tk } :=
  ⟨h', tk, rfl, fun b o off e => hsb.extBut b o (fun q => off.2.2.1 k (q ▸ ha)) e⟩
theorem atom_of {D : Dyn} {ow : Nat → Option Addr} {h : Heap} {v : V} {val : Value} (r : Rep (Bad D ow) h v val) (ha : atoms [v] = true) : RepA v val := by
  cases v <;> first | exact r | cases ha
/-- xs.append(e) -/
theorem x_append {x : Str} {e : Expr} {k : Nat} {kd : NameKind} {l : List V} {v : V} {p apos cpos : Pos} {Q : Flo → List V → Prop} (hk : idx F x = some (k, kd)) (hkd : (kd == .local || kd == .cell) = true) (hv : σ[k]? = some (.own l)) (hd : (x == ("__debug__" : Str)) = false)
    (he : EP G n F false e σ v) (ha : atoms [v] = true) (hst : ∀ env, starEach [e] env = [(false, eval e env)]) (hline : (apos.endLine == cpos.line) = true) (hz : l.length ≤ 16777216) (hint : ∀ env : Env, env.scope = F → interactive env = false)
    (h : Q .next (σ.set k (.own (l ++ [v])))) : EX1 G n F t (.Expr (.Call (.Attribute (.Name x p) "append" apos) [e] [] cpos) pos) σ Q := fun D ow s E O R => by
  refine wpAny_Expr_any ?_ (hint _ O.scope) rfl
  refine Call_method1 rfl (hst _) hline ?_
  refine wpAny_Name (wp_name O R hk hkd hv (by intro e; cases e) fun val r => ?_) hd
  obtain ⟨a, items, rfl, hao, hp, hr⟩ := r
  refine ⟨"list", "list.append", PySem.F.plainAttrs_list, PySem.F.slot_list_append, PySem.F.type_list_append, hp.isList.typeIs, (fun b q => ?_), ?_⟩
  · cases q; obtain ⟨k0, e0⟩ := hp; exact ⟨_, e0, rfl⟩
  · refine callWith_builtin rfl (evalArgs_plain (spliced_cons (he.go O R fun val s1 rv K1 R1 => spliced_nil ?_)))
    have hp1 : s1.heap.PlainList a items.toArray := PlainList.mono hp fun o e => K1.strict _ o e
    refine wpAny_list_append_plain hp1 (fun h' hl hsb => ?_) (by rw [sizeLine_eq, List.size_toArray, hr.length]; exact hz)
    have rv' := atom_of rv ha
    exact ⟨.next, _, ow, trivial, own_push O R1 hv hao hr rv' hl hsb, ((KX.of_kt K1).weak).trans (kx_own hao hsb) (OwG.refl _ _), OwG.refl _ _, h⟩
/-- xs.pop() -/
theorem x_pop {x : Str} {k : Nat} {kd : NameKind} {l : List V} {v : V} {p apos cpos : Pos} {Q : Flo → List V → Prop} (hk : idx F x = some (k, kd)) (hkd : (kd == .local || kd == .cell) = true) (hv : σ[k]? = some (.own (l ++ [v]))) (hd : (x == ("__debug__" : Str)) = false)
    (hline : (apos.endLine == cpos.line) = true) (hz : l.length ≤ 16777000) (hint : ∀ env : Env, env.scope = F → interactive env = false)
    (h : Q .next (σ.set k (.own l))) : EX1 G n F t (.Expr (.Call (.Attribute (.Name x p) "pop" apos) [] [] cpos) pos) σ Q := fun D ow s E O R => by
  refine wpAny_Expr_any ?_ (hint _ O.scope) rfl
  refine Call_method0 rfl hline ?_
  refine wpAny_Name (wp_name O R hk hkd hv (by intro e; cases e) fun val r => ?_) hd
  obtain ⟨a, items, rfl, hao, hp, hr⟩ := r
  refine ⟨"list", "list.pop", PySem.F.plainAttrs_list, PySem.F.slot_list_pop, PySem.F.type_list_pop, hp.isList.typeIs, (fun b q => ?_), ?_⟩
  · cases q; obtain ⟨k0, e0⟩ := hp; exact ⟨_, e0, rfl⟩
  · refine callWith_builtin rfl (wp_evalArgs rfl (spliced_nil ?_))
    obtain ⟨k0, e0⟩ := hp
    have hlen := hr.length
    rw [List.length_append, List.length_singleton] at hlen
    obtain ⟨u, hu, _⟩ := hr.get (i := l.length) (v := v) (by simp)
    refine call_meets PySem.F.slot_list_pop (show Shared.TypeIs _ (.ref a) "list" from ⟨_, e0, rfl⟩) PySem.F.entry_list_pop (PySem.F.args_list_pop_1 _) (PySem.MeetsSeq.list_pop_last a items.toArray k0 u (by simpa [hlen] using hu) (by rw [sizeLine_eq, List.size_toArray]; omega)) ⟨e0, ?_⟩
    have hsb := Heap.SameBut.update s.heap a (Obj.mapSeq fun xs => xs.eraseIdxIfInBounds (items.toArray.size - 1))
    have hup := Heap.get?_update_self (Obj.mapSeq fun xs => xs.eraseIdxIfInBounds (items.toArray.size - 1)) e0 rfl
    show XPost _ _ _ _ _ _ _ _
    have hit : items = items.take l.length ++ [u] := by
      have h1 := List.take_append_drop l.length items
      have h2 : items.drop l.length = [u] := by
        rw [List.drop_eq_getElem_cons (by omega)]
        have : items[l.length] = u := by
          have := hu; rw [List.getElem?_eq_getElem (by omega)] at this; exact Option.some.inj this
        rw [this, List.drop_eq_nil_of_le (by omega)]
      rw [h2] at h1; exact h1.symm
    have hr' : Reps l (items.take l.length) := by
      have := hr.take l.length
      rwa [List.take_left] at this
    refine ⟨.next, _, ow, trivial, R.own_upd (tk := s.toks) O hao hsb ⟨_, hup⟩ (Nat.le_refl _) hv (by intro e; cases e) (fun w r => ?_), kx_own hao hsb, OwG.refl _ _, h⟩
    obtain ⟨a', items', rfl, e, _, _⟩ := r
    rw [hao] at e; cases e
    refine ⟨a, items.take l.length, rfl, hao, ⟨k0 + 1, ?_⟩, hr'⟩
    rw [hup]
    have e1 : items.toArray.eraseIdxIfInBounds (items.toArray.size - 1) = (items.take l.length).toArray := by
      have h3 : items.toArray.size - 1 = l.length := by rw [List.size_toArray, hlen]; omega
      rw [h3]
      have h4 : l.length < items.toArray.size := by rw [List.size_toArray, hlen]; omega
      unfold Array.eraseIdxIfInBounds
      rw [dif_pos h4]
      apply Array.ext'
      rw [Array.toList_eraseIdx]
      show items.eraseIdx l.length = items.take l.length
      rw [List.eraseIdx_eq_take_drop_succ, List.drop_eq_nil_of_le (by omega), List.append_nil]
    simp only [Obj.mapSeq, e1]
    have e2 : ((items.take l.length).toArray.size == items.toArray.size) = false := by simp [hlen]
    rw [e2]; rfl
end
section
variable {G : Gl} {n : Nat} {F : Scope} {t : Bool} {σ : List V} {pos : Pos}

/-! sources -/
noncomputable def SrcOk (src : V) (N : Nat) (vs : Nat → V) : Prop :=
  match src with
  | .list l => N = l.length ∧ ∀ i, i < N → l[i]? = some (vs i)
  | .str y => y.cps.all (· < 128) = true ∧ N = y.cps.size ∧ ∀ i c, y.cps[i]? = some c → vs i = .str ⟨#[c]⟩
  | .range a b c => Builtin.Range.small a b c = true ∧ Builtin.Range.rangeSize a b c = (N : Int) ∧ ∀ i : Nat, vs i = .int (a + i * c)
  | _ => False
theorem walks_bounded {prog : Program} {w : World} {A : Around} {I : Addr} {fp wr : List Addr} {n : Nat} {P : Nat → Value → Prop} {St : Nat → Heap → Prop} (W : Walks prog w A I fp wr n P St) : Walks prog w A I fp wr n (fun i v => i < n ∧ P i v) St where
  sub := W.sub
  frame := W.frame
  item := fun i s Q E hi st hQ => W.item i s Q E hi st fun v h' tk hP => hQ v h' tk ⟨hi, hP⟩
  done := W.done
  self := W.self
theorem wp_iter {A : Around} {E : Value → Shared → Prop} {bad : Addr → Prop} {s : Shared} {src : V} {val : Value} {N : Nat} {vs : Nat → V} {Q : Value → Shared → Prop} (hA : A.handled = none) (r : Rep bad s.heap src val) (ok : SrcOk src N vs)
    (h : ∀ I fp wr P St s₂, Kt G false s s₂ → s.toks = s₂.toks → Walks G.prog G.w A I fp wr N P St → St 0 s₂.heap → (∀ b ∈ fp, b < s₂.heap.objs.size) → (∀ b ∈ wr, s.heap.get? b = none) → (∀ i v, i < N → P i v → RepA (vs i) v) → Q (.ref I) s₂) :
    wpAny (model G.prog G.w) A (pyIter val) Q E s := by
  cases src with
  | list l =>
    obtain ⟨hN, hv⟩ := ok
    obtain ⟨a, items, rfl, na, hp, hr⟩ := r
    obtain ⟨q0, ha⟩ := id hp
    refine wpAny_pyIter_list hp.isList ?_
    have W := Walks.list (prog := G.prog) (w := G.w) hA s.heap.objs.size a (Nat.ne_of_lt (Heap.lt_size ha)) items.toArray
    have e : items.toArray.size = N := by rw [List.size_toArray, hr.length, hN]
    rw [e] at W
    refine h _ _ _ _ _ _ (Kt.pushed _) rfl W ⟨⟨_, Heap.get?_push_size _ rfl, rfl, rfl⟩, hp.isList.push _⟩ (fun b hb => ?_) (fun b hb => by rw [List.mem_singleton.mp hb]; exact fresh_none _) (fun i v hi hPv => ?_)
    · show b < (s.heap.push _).objs.size
      rw [Heap.size_push]
      rcases List.mem_cons.mp hb with h | h
      · rw [h]; exact Nat.lt_succ_self _
      · rw [List.mem_singleton.mp h]; exact Nat.lt_succ_of_lt (Heap.lt_size ha)
    · have hv' : items[i]? = some v := by simpa using hPv
      obtain ⟨w, e1, e2⟩ := hr.getV hv'
      rw [hv i hi] at e1; cases e1; exact e2
  | str y =>
    obtain ⟨ha, hN, hv⟩ := ok
    obtain ⟨tk, rfl⟩ := r
    refine wpAny_pyIter_ascii ha ?_
    have W := Walks.strAscii (prog := G.prog) (w := G.w) hA s.heap.objs.size y tk
    rw [← hN] at W
    refine h _ _ _ _ _ _ (Kt.pushed _) rfl W ⟨_, Heap.get?_push_size _ rfl, rfl, rfl⟩ (fun b hb => ?_) (fun b hb => by rw [List.mem_singleton.mp hb]; exact fresh_none _) (fun i v hi hPv => ?_)
    · show b < (s.heap.push _).objs.size
      rw [Heap.size_push, List.mem_singleton.mp hb]; exact Nat.lt_succ_self _
    · obtain ⟨c, u, e1, e2⟩ := hPv
      rw [hv i c e1]; exact ⟨u, e2⟩
  | range a b c =>
    obtain ⟨hsm, hN, hv⟩ := ok
    obtain ⟨r, u1, u2, u3, rfl, na, hp⟩ := r
    refine wpAny_pyIter_range hp hsm ?_
    have W := Walks.range (prog := G.prog) (w := G.w) hA s.heap.objs.size a c N
    refine h _ _ _ _ _ _ (Kt.pushed _) rfl W ?_ (fun b hb => ?_) (fun b hb => by rw [List.mem_singleton.mp hb]; exact fresh_none _) (fun i v hi hPv => ?_)
    · have e0 : a + ((0 : Nat) : Int) * c = a := by simp
      have e1 : (N : Int) - ((0 : Nat) : Int) = Builtin.Range.rangeSize a b c := by rw [hN]; simp
      show IsRangeIter _ _ (a + ((0 : Nat) : Int) * c) ((N : Int) - ((0 : Nat) : Int)) c
      rw [e0, e1]
      exact Heap.get?_push_size s.heap (o := { cls := .type "range_iterator", data := .fields #[rawInt a, rawInt (Builtin.Range.rangeSize a b c), rawInt c] }) rfl
    · show b < (s.heap.push _).objs.size
      rw [Heap.size_push, List.mem_singleton.mp hb]; exact Nat.lt_succ_self _
    · obtain ⟨u, e2⟩ := hPv
      rw [hv i]; exact ⟨u, e2⟩
  | _ => exact ok.elim

/-! comprehensions -/
noncomputable def toV : Value → V
  | .int i _ => .int i
  | .str x _ => .str x
  | .bool b => .bool b
  | .none => .none
  | v => .raw v
noncomputable def canon : V → Prop
  | .int _ | .str _ => True
  | _ => False
theorem toV_of {w : V} {val : Value} (r : RepA w val) (h : canon w) : toV val = w := by
  cases w <;> first | exact h.elim | skip
  · obtain ⟨t, rfl⟩ := r; rfl
  · obtain ⟨t, rfl⟩ := r; rfl

/-- the scope of a comprehension as it runs within F -/
noncomputable def rl (scope F : Scope) : Scope :=
  { scope with names := scope.names.map fun (n, k) => if (k == .free && F.kind == .function && F.names.lookup n == some .cell) then (n, .cell) else (n, k) }
theorem relabel_eq {scope F : Scope} {env : Env} (h : env.scope = F) : relabel scope env = rl scope F := by
  unfold relabel rl Env.kindOf; rw [h]

structure Clo (G : Gl) (n : Nat) (F scope : Scope) (σ : List V) (σc : V → List V) : Prop where
  cl : ∀ D ow s, D.Ok G n F → Rel G D ow σ s → ∃ cl, closureFor scope D.env = pure cl ∧ (∀ c ∈ cl, c ∈ D.env.cells) ∧ (cl.Pairwise fun x y => x.2 ≠ y.2) ∧
    ∀ (k : Nat) (y : Str), (rl scope F).names[k]? = some (y, NameKind.cell) → ∃ c ky, cl.lookup y = some c ∧ D.env.cells.lookup y = some c ∧ idx F y = some (ky, .cell) ∧ ∀ v w, (σc v)[k]? = some w → w ≠ .unb → σ[ky]? = some w ∧ w.plain = true

theorem comp_state {D : Dyn} {ow : Nat → Option Addr} {s s₃ : Shared} {scope : Scope} {x : Str} {kx : Nat} {cl : List (Str × Addr)} {C : Addr} {m₃ : Str → Option Value} {σc : List V} {w : V} {val : Value}
    (O : D.Ok G n F) (R : Rel G D ow σ s) (hkeep : ∀ b o, s.heap.get? b = some o → s₃.heap.get? b = some o) (ht : s.toks ≤ s₃.toks) (dead : s.heap.get? C = none) (hn : s₃.heap.Ns C m₃) (hm : m₃ x = some val) (ra : RepA w val)
    (hkind : scope.kind = .function) (hnd : (scope.names.map (·.1)).Nodup) (hx : idx (rl scope F) x = some (kx, .local)) (hxw : σc[kx]? = some w) (hloc : ∀ k y u, (rl scope F).names[k]? = some (y, .local) → σc[k]? = some u → u ≠ .unb → k = kx)
    (hcl : ∀ c ∈ cl, c ∈ D.env.cells) (hap : cl.Pairwise fun x y => x.2 ≠ y.2)
    (hce : ∀ (k : Nat) (y : Str), (rl scope F).names[k]? = some (y, NameKind.cell) → ∃ c ky, cl.lookup y = some c ∧ D.env.cells.lookup y = some c ∧ idx F y = some (ky, .cell) ∧ ∀ u, σc[k]? = some u → u ≠ .unb → σ[ky]? = some u ∧ u.plain = true) (hcT : isT scope = false) :
    ∃ D' : Dyn, D'.A = D.A ∧ D'.env = compEnvC scope cl C D.env ∧ D'.Ok G n (rl scope F) ∧ Rel G D' (fun _ => none) σc s₃ := by
  have live := (R.around O).live
  have neC : ∀ b, (∃ o, s.heap.get? b = some o) → b ≠ C := fun b h q => by obtain ⟨o, e⟩ := h; rw [q, dead] at e; cases e
  have names_rl : (rl scope F).names.map (·.1) = scope.names.map (·.1) := by
    unfold rl
    simp only [List.map_map]
    apply List.map_congr_left
    intro p _
    simp only [Function.comp]
    split <;> rfl
  refine ⟨⟨D.A, compEnvC scope cl C D.env, fun b => Bad D ow b ∨ b = C⟩, rfl, rfl, ⟨relabel_eq O.scope, hkind, O.glob, O.blt, O.room, .inr rfl, fun c hc => .inl (.inl (O.mutC c (hcl c hc))), .inl (.inl O.mutT), ?_, fun c hc => O.noC c (hcl c hc), ?_, fun c hc => O.CT c (hcl c hc), fun c hc => ?_, hap, by rw [names_rl]; exact hnd, fun hT => by unfold isT at hT hcT; rw [names_rl, hcT] at hT; cases hT⟩, ?_⟩
  · cases e : G.g₀.get? C with
    | none => exact e
    | some o => have := R.keep C o e; rw [dead] at this; cases this
  · exact Ne.symm (neC _ (G.tabLive R.tab))
  · exact neC _ (R.live _ (O.mutC c (hcl c hc)))
  · have bad' : ∀ b, Bad ⟨D.A, compEnvC scope cl C D.env, fun b => Bad D ow b ∨ b = C⟩ (fun _ => none) b → Bad D ow b ∨ s.heap.get? b = none := by
      rintro b ((h | h) | ⟨k, h⟩)
      · exact .inl h
      · exact .inr (h ▸ dead)
      · cases h
    have sc : (compEnvC scope cl C D.env).scope = rl scope F := relabel_eq O.scope
    refine ⟨fun b o e => hkeep b o (R.keep b o e), Nat.le_trans R.toks ht, G.tabKeep R.tab bad' fun b o _ e => hkeep b o e, fun b h => ?_, ⟨m₃, hn, fun k y u e1 e2 e3 => ?_⟩, fun k y e1 => ?_, fun k a e => (by cases e), fun k k' a e => (by cases e)⟩
    · rcases h with h | h
      · obtain ⟨o, e⟩ := live b h; exact ⟨o, hkeep b o e⟩
      · obtain ⟨o, _, _, ho, _⟩ := hn; exact ⟨o, h ▸ ho⟩
    · have e1' : (rl scope F).names[k]? = some (y, .local) := by rw [← sc]; exact e1
      have hk := hloc k y u e1' e2 e3
      subst hk
      have := (idx_at hx).1
      rw [this] at e1'; cases e1'
      rw [hxw] at e2; cases e2
      exact ⟨val, hm, repVar_of (repA_rep ra) ra.plain⟩
    · have e1' : (rl scope F).names[k]? = some (y, .cell) := by rw [← sc]; exact e1
      obtain ⟨c, ky, p1, p2, p3, p4⟩ := hce k y e1'
      have h3 := (idx_at p3).1
      obtain ⟨c', vo, q1, q2, q3⟩ := R.cells ky y (by rw [O.scope]; exact h3)
      rw [p2] at q1; cases q1
      refine ⟨c, vo, p1, q2.keeps hkeep, fun u e2 e3 => ?_⟩
      obtain ⟨r1, r2⟩ := p4 u e2 e3
      obtain ⟨val', z1, z2⟩ := q3 u r1 e3
      exact ⟨val', z1, repVar_of ((z2.rep r2).mono bad' (fun b o _ e => hkeep b o e) (by intro l e; subst e; cases r2)) r2⟩

theorem paired_reps {f : V → V} {q : V → Bool} : ∀ {vals ys : List Value} {us : List V}, Reps us vals → (∀ u ∈ us, canon u) → Paired (fun v y => RepA (f (toV v)) y) (vals.filter fun v => q (toV v)) ys → Reps ((us.filter q).map f) ys
  | [], ys, [], _, _, h => by cases h; trivial
  | [], _, _ :: _, h, _, _ => h.elim
  | _ :: _, _, [], h, _, _ => h.elim
  | v :: vals, ys, u :: us, h, hc, hp => by
    have e := toV_of h.1 (hc u (.head _))
    have ih := @paired_reps f q vals
    rw [List.filter_cons] at hp ⊢
    rw [e] at hp
    by_cases hq : q u = true
    · rw [if_pos hq] at hp ⊢
      cases hp with
      | cons h1 h2 =>
        rw [e] at h1
        exact ⟨h1, ih h.2 (fun u hu => hc u (.tail _ hu)) h2⟩
    · rw [if_neg hq] at hp ⊢
      exact ih h.2 (fun u hu => hc u (.tail _ hu)) hp

theorem reps_range {vs : Nat → V} {P : Nat → Value → Prop} : ∀ (N : Nat) {vals : List Value}, vals.length = N → (∀ j v, vals[j]? = some v → P j v) → (∀ i v, i < N → P i v → RepA (vs i) v) → Reps ((List.range N).map vs) vals
  | 0, vals, h, _, _ => by
    rw [List.length_eq_zero_iff.mp h]; trivial
  | N + 1, vals, h, hp, hr => by
    have hne : vals ≠ [] := by intro e; rw [e] at h; cases h
    have e := List.dropLast_concat_getLast hne
    have hl : vals.dropLast.length = N := by rw [List.length_dropLast, h]; rfl
    rw [List.range_succ, List.map_append, ← e]
    refine (reps_range N hl (fun j v hj => hp j v ?_) fun i v hi hv => hr i v (by omega) hv).append ⟨?_, trivial⟩
    · have hj' : j < vals.dropLast.length := (List.getElem?_eq_some_iff.mp hj).1
      rw [← e, List.getElem?_append_left hj']; exact hj
    · refine hr N _ (Nat.lt_succ_self _) (hp N _ ?_)
      have : (vals.dropLast ++ [vals.getLast hne])[N]? = some (vals.getLast hne) := by
        rw [List.getElem?_append_right (by omega), hl]; simp
      rw [e] at this; exact this

/-- the tests of one clause -/
noncomputable def IfsOk (G : Gl) (n : Nat) (F : Scope) (ifs : List Expr) (σ : List V) (b : Bool) : Prop :=
  match ifs with
  | [] => b = true
  | [c] => ET G n F false c σ b
  | _ => False
theorem ifs_go {G : Gl} {n : Nat} {F : Scope} {ifs : List Expr} {σ : List V} {b : Bool} (h : IfsOk G n F ifs σ b) {D : Dyn} {ow : Nat → Option Addr} {s : Shared} {E : Value → Shared → Prop} (O : D.Ok G n F) (R : Rel G D ow σ s) :
    wpAny (model G.prog G.w) D.A (forIn ifs true fun c r => if r = true then do let ok ← isTrue c D.env (eval c D.env); pure (ForInStep.yield ok) else pure (ForInStep.yield r))
      (fun ok s₄ => ok = b ∧ Keeps s s₄) E s := by
  match ifs, h with
  | [], h => rw [List.forIn_nil]; exact wpAny_pure ⟨h.symm, s.heap, s.toks, rfl, fun _ _ e => e⟩
  | [c], h =>
    rw [List.forIn_cons, if_pos rfl]
    refine wpAny_bind (wpAny_bind (ET.go h O R fun s' K R' => wpAny_pure ?_))
    dsimp only
    rw [List.forIn_nil]
    obtain ⟨h', tk, rfl, k⟩ := K
    exact wpAny_pure ⟨rfl, h', tk, rfl, fun b o e => k b o (by intro h; cases h) e⟩

theorem dead_of {G : Gl} {s s₂ : Shared} {C : Addr} (K : Kt G false s s₂) (hC : s₂.heap.objs.size ≤ C) : s.heap.get? C = none := by
  cases e : s.heap.get? C with
  | none => rfl
  | some o => exact absurd (Heap.lt_size (K.strict _ _ e)) (Nat.not_lt.mpr hC)
theorem f_comp {elt iter : Expr} {x : Str} {kx : Nat} {px : Pos} {ifs : List Expr} {scope : Scope} {src : V} {N : Nat} {vs : Nat → V} (q : V → Bool) (f : V → V) (σc : V → List V)
    (hi : EP G n F false iter σ src) (hs : ∀ env v, foldedSetIterable iter env v = pure v) (ok : SrcOk src N vs) (hN : N ≤ 100000) (hcan : ∀ i, i < N → canon (vs i)) (C : Clo G n F scope σ σc)
    (hcell : ∀ y ∈ scope.names, y.2 ≠ .cell) (hkind : scope.kind = .function) (hnames : ∀ y ∈ scope.names, y.2 = .local → scope.names.lookup y.1 = some .local) (hnd : (scope.names.map (·.1)).Nodup) (hxl : scope.names.lookup x = some .local)
    (hx : idx (rl scope F) x = some (kx, .local)) (hxw : ∀ v, (σc v)[kx]? = some v) (hloc : ∀ v (k : Nat) (y : Str) u, (rl scope F).names[k]? = some (y, NameKind.local) → (σc v)[k]? = some u → u ≠ .unb → k = kx)
    (htest : ∀ i, i < N → IfsOk G n (rl scope F) ifs (σc (vs i)) (q (vs i))) (helt : ∀ i, i < N → q (vs i) = true → EP G n (rl scope F) false elt (σc (vs i)) (f (vs i)) ∧ atoms [f (vs i)] = true) (hcT : isT scope = false := by decide +kernel) :
    EF G n F false (.ListComp elt [⟨.Name x px, iter, ifs, 0⟩] scope pos) σ ((((List.range N).map vs).filter q).map f) := fun D ow s E O R => by
  refine wpAny_with_toks (n := s.toks) (Nat.le_refl _) ?_
  obtain ⟨cl, hclos, hcl, hap, hce⟩ := C.cl D ow s O R
  refine wpAny_ListComp_free (fun v => q (toV v)) (fun v y => RepA (f (toV v)) y) hclos hcell hkind hnames hxl ?_ (hs D.env)
  refine hi.go O R fun val s1 r1 K1 R1 => wp_iter O.room.2.2 r1 ok fun I fp wr P St s₂ K2 htk2 W hst hfp hwr hP => ?_
  have W' := walks_bounded W
  refine ⟨I, fp, wr, N, _, St, rfl, W', by rw [sizeLine_eq]; omega, hst, hfp, ⟨?_, ?_⟩, ?_⟩
  · intro C' i v s₃ m₃ E' hC hPv hn hm hk ht
    have ra := hP i v hPv.1 hPv.2
    obtain ⟨D', hA, hE, O', R'⟩ := comp_state (scope := scope) (cl := cl) (C := C') (σc := σc (vs i)) O R1 (fun b o e => hk b o (fun hb => by rw [hwr b hb] at e; cases e) (K2.strict b o e)) (by rw [htk2]; exact ht)
      (dead_of K2 hC) hn hm ra hkind hnd hx (hxw _) (hloc _) hcl hap (fun k y e => by
        obtain ⟨c, ky, z1, z2, z3, z4⟩ := hce k y e
        exact ⟨c, ky, z1, z2, z3, z4 _⟩) hcT
    have g := ifs_go (E := E') (htest i hPv.1) O' R'
    rw [hA, hE] at g
    refine wpAny_mono g (fun okb s₄ y => ⟨y.1.trans ?_, y.2⟩) fun _ _ y => y
    show q (vs i) = q (toV v)
    rw [toV_of ra (hcan i hPv.1)]
  · intro C' i v s₃ m₃ E' hC hPv hpv hn hm hk ht
    have ra := hP i v hPv.1 hPv.2
    have etv := toV_of ra (hcan i hPv.1)
    rw [etv] at hpv
    obtain ⟨D', hA, hE, O', R'⟩ := comp_state (scope := scope) (cl := cl) (C := C') (σc := σc (vs i)) O R1 (fun b o e => hk b o (fun hb => by rw [hwr b hb] at e; cases e) (K2.strict b o e)) (by rw [htk2]; exact ht)
      (dead_of K2 hC) hn hm ra hkind hnd hx (hxw _) (hloc _) hcl hap (fun k y e => by
        obtain ⟨c, ky, z1, z2, z3, z4⟩ := hce k y e
        exact ⟨c, ky, z1, z2, z3, z4 _⟩) hcT
    obtain ⟨he, hat⟩ := helt i hPv.1 hpv
    have g := he D' _ s₃ E' O' R'
    rw [hA, hE] at g
    refine wpAny_mono g (fun y s₄ z => ⟨?_, ?_⟩) fun _ _ y => y
    · show RepA (f (toV v)) y
      rw [etv]
      exact atom_of z.1 hat
    · obtain ⟨_, ⟨h', tk, e, kk⟩, _⟩ := z
      exact ⟨h', tk, e, fun b o e => kk b o (by intro h; cases h) e⟩
  · intro D' h' tk ys vals hD hl hpl hlen hPj hPair hk htk
    have hus := reps_range (vs := vs) N hlen hPj (fun i v hi hv => hP i v hv.1 hv.2)
    have hre := paired_reps (f := f) (q := q) hus (fun u hu => by
      obtain ⟨i, hi, rfl⟩ := List.mem_map.mp hu
      exact hcan i (List.mem_range.mp hi)) hPair
    have K3 : Kt G false s1 { s₂ with heap := h', toks := tk } := by
      obtain ⟨h2, tk2, rfl, kk⟩ := K2
      exact ⟨h', tk, rfl, fun b o _ e => hk b o (fun hb => by rw [hwr b hb] at e; cases e) (kk b o (by intro h; cases h) e)⟩
    refine ⟨⟨D', ys.toList, rfl, ?_, by simpa using hpl, hre⟩, K1.trans K3, Gl.tabKt R1.tab K3.strict⟩
    cases e : s.heap.get? D' with
    | none => rfl
    | some o =>
      have := K2.strict _ _ (K1.strict _ _ e)
      rw [hD] at this; cases this
end
/-! closures of comprehensions -/
noncomputable def clo (cells : List (Str × Addr)) : List (Str × NameKind) → List (Str × Addr) → List (Str × Addr)
  | [], acc => acc
  | (y, k) :: r, acc => if k == .free then clo cells r ((y, (cells.lookup y).getD 0) :: acc) else clo cells r acc
theorem clo_eq {env : Env} {scope : Scope} (h : ∀ y, (y, NameKind.free) ∈ scope.names → ∃ c, env.cells.lookup y = some c) : closureFor scope env = pure (clo env.cells scope.names []) := by
  unfold closureFor
  have go : ∀ (l : List (Str × NameKind)) (acc : List (Str × Addr)), (∀ y, (y, NameKind.free) ∈ l → ∃ c, env.cells.lookup y = some c) →
      (forIn l acc fun (x : Str × NameKind) (cs : List (Str × Addr)) => (if (x.2 == .free) = true then do let a ← cellOf env x.1; pure (ForInStep.yield ((x.1, a) :: cs)) else pure (ForInStep.yield cs) : Sem (ForInStep (List (Str × Addr))))) = pure (clo env.cells l acc) := by
    intro l
    induction l with
    | nil => intro acc _; rfl
    | cons p r ih =>
      obtain ⟨y, k⟩ := p
      intro acc hl
      rw [List.forIn_cons]
      unfold clo
      by_cases hk : (k == NameKind.free) = true
      · rw [if_pos hk, if_pos hk]
        have hk' := beq_iff_eq.mp hk
        subst hk'
        obtain ⟨c, hc⟩ := hl y (.head _)
        have e : cellOf env y = pure c := by unfold cellOf; rw [hc]
        rw [e, hc]
        exact ih _ fun z hz => hl z (.tail _ hz)
      · rw [if_neg hk, if_neg hk]
        exact ih _ fun z hz => hl z (.tail _ hz)
  have := go scope.names [] h
  have e2 : (pure (clo env.cells scope.names []) : Sem _) >>= pure = pure (clo env.cells scope.names []) := rfl
  rw [← e2, ← this]
theorem clo_mem {cells : List (Str × Addr)} : ∀ (l : List (Str × NameKind)) (acc : List (Str × Addr)) (p : Str × Addr), p ∈ clo cells l acc → p ∈ acc ∨ ((p.1, NameKind.free) ∈ l ∧ p.2 = (cells.lookup p.1).getD 0)
  | [], acc, p, h => .inl h
  | (y, k) :: r, acc, p, h => by
    unfold clo at h
    by_cases hk : (k == NameKind.free) = true
    · rw [if_pos hk] at h
      rcases clo_mem r _ p h with h | h
      · rcases List.mem_cons.mp h with h | h
        · subst h; exact .inr ⟨by rw [beq_iff_eq.mp hk]; exact .head _, rfl⟩
        · exact .inl h
      · exact .inr ⟨.tail _ h.1, h.2⟩
    · rw [if_neg hk] at h
      rcases clo_mem r _ p h with h | h
      · exact .inl h
      · exact .inr ⟨.tail _ h.1, h.2⟩
theorem clo_keys {cells : List (Str × Addr)} : ∀ (l : List (Str × NameKind)) (acc : List (Str × Addr)), (l.map (·.1)).Nodup → (acc.map (·.1)).Nodup → (∀ x ∈ l, x.1 ∉ acc.map (·.1)) → ((clo cells l acc).map (·.1)).Nodup
  | [], acc, _, h, _ => h
  | (y, k) :: r, acc, h1, h2, h3 => by
    rw [List.map_cons, List.nodup_cons] at h1
    unfold clo
    by_cases hk : (k == NameKind.free) = true
    · rw [if_pos hk]
      refine clo_keys r _ h1.2 (by rw [List.map_cons, List.nodup_cons]; exact ⟨h3 _ (.head _), h2⟩) fun x hx hm => ?_
      rw [List.map_cons] at hm
      rcases List.mem_cons.mp hm with e | hm
      · exact h1.1 (by rw [← e]; exact List.mem_map_of_mem hx)
      · exact h3 x (.tail _ hx) hm
    · rw [if_neg hk]
      exact clo_keys r _ h1.2 h2 fun x hx => h3 x (.tail _ hx)
theorem clo_has {cells : List (Str × Addr)} : ∀ (l : List (Str × NameKind)) (acc : List (Str × Addr)) (y : Str), ((y, NameKind.free) ∈ l ∨ y ∈ acc.map (·.1)) → y ∈ (clo cells l acc).map (·.1)
  | [], acc, y, h => h.elim (fun h => nomatch h) id
  | (z, k) :: r, acc, y, h => by
    unfold clo
    by_cases hk : (k == NameKind.free) = true
    · rw [if_pos hk]
      refine clo_has r _ y ?_
      rcases h with h | h
      · rcases List.mem_cons.mp h with e | h
        · cases e; exact .inr (by rw [List.map_cons]; exact .head _)
        · exact .inl h
      · exact .inr (by rw [List.map_cons]; exact .tail _ h)
    · rw [if_neg hk]
      refine clo_has r _ y ?_
      rcases h with h | h
      · rcases List.mem_cons.mp h with e | h
        · cases e; exact absurd rfl hk
        · exact .inl h
      · exact .inr h
theorem lookup_all {cl : List (Str × Addr)} {f : Str → Option Addr} : (∀ p ∈ cl, f p.1 = some p.2) → ∀ y, y ∈ cl.map (·.1) → cl.lookup y = f y := by
  induction cl with
  | nil => intro _ y h; cases h
  | cons p r ih =>
    intro h y hy
    obtain ⟨z, c⟩ := p
    rw [List.lookup_cons]
    by_cases e : y = z
    · subst e
      have := h (y, c) (.head _)
      simp [this]
    · have e' : (y == z) = false := by simpa using e
      rw [e']
      rw [List.map_cons] at hy
      rcases List.mem_cons.mp hy with q | q
      · exact absurd q e
      · exact ih (fun p hp => h p (.tail _ hp)) y q

theorem clo_of {G : Gl} {n : Nat} {F scope : Scope} {σ : List V} {σc : V → List V} (hnd : (scope.names.map (·.1)).Nodup) (hcell : ∀ y ∈ scope.names, y.2 ≠ .cell)
    (hfree : ∀ (k : Nat) (y : Str), scope.names[k]? = some (y, NameKind.free) → ∃ ky, idx F y = some (ky, .cell) ∧ ∀ v w, (σc v)[k]? = some w → w ≠ .unb → σ[ky]? = some w ∧ w.plain = true) : Clo G n F scope σ σc := by
  constructor
  intro D ow s O R
  have has : ∀ y, (y, NameKind.free) ∈ scope.names → ∃ c, D.env.cells.lookup y = some c := by
    intro y hy
    obtain ⟨k, hk, e⟩ := List.getElem_of_mem hy
    obtain ⟨ky, h1, _⟩ := hfree k y (by rw [List.getElem?_eq_getElem hk, e])
    obtain ⟨c, vo, h2, _⟩ := R.cells ky y (by rw [O.scope]; exact (idx_at h1).1)
    exact ⟨c, h2⟩
  have all : ∀ p ∈ clo D.env.cells scope.names [], D.env.cells.lookup p.1 = some p.2 := by
    intro p hp
    rcases clo_mem _ _ p hp with h | ⟨h1, h2⟩
    · cases h
    · obtain ⟨c, hc⟩ := has p.1 h1
      rw [h2, hc]; rfl
  refine ⟨_, clo_eq has, fun c hc => mem_of_lookup (all c hc), ?_, fun k y e => ?_⟩
  · have nd := clo_keys (cells := D.env.cells) scope.names [] hnd List.nodup_nil (fun _ _ h => nomatch h)
    rw [List.nodup_iff_pairwise_ne, List.pairwise_map] at nd
    refine nd.imp_of_mem fun {a b} ha hb hne hab => hne ?_
    exact name_of_addr O.apart (mem_of_lookup (all a ha)) (by rw [hab]; exact mem_of_lookup (all b hb))
  · have hF := O.kind
    have e0 : ∃ kd, scope.names[k]? = some (y, kd) ∧ (if (kd == .free && F.kind == .function && F.names.lookup y == some .cell) = true then NameKind.cell else kd) = .cell := by
      unfold rl at e
      rw [List.getElem?_map] at e
      cases q : scope.names[k]? with
      | none => rw [q] at e; cases e
      | some p =>
        obtain ⟨z, kd⟩ := p
        rw [q] at e
        simp only [Option.map_some, Option.some.injEq] at e
        by_cases c : (kd == NameKind.free && F.kind == ScopeKind.function && List.lookup z F.names == some NameKind.cell) = true
        · rw [if_pos c] at e; cases e; exact ⟨kd, rfl, by rw [if_pos c]⟩
        · rw [if_neg c] at e; cases e; exact ⟨.cell, rfl, by split <;> rfl⟩
    obtain ⟨kd, e1, e2⟩ := e0
    have hkd : kd = .free := by
      by_cases c : (kd == NameKind.free && F.kind == ScopeKind.function && F.names.lookup y == some NameKind.cell) = true
      · simp only [Bool.and_eq_true] at c
        exact beq_iff_eq.mp c.1.1
      · rw [if_neg c] at e2
        exact absurd e2 (hcell (y, kd) (List.mem_of_getElem? e1))
    subst hkd
    obtain ⟨ky, h1, h2⟩ := hfree k y e1
    obtain ⟨c, hc⟩ := has y (List.mem_of_getElem? e1)
    have hl := lookup_all (f := fun y => D.env.cells.lookup y) all y (clo_has scope.names [] y (.inl (List.mem_of_getElem? e1)))
    exact ⟨c, ky, hl.trans hc, hc, h1, h2⟩

/-! calls of the text's own functions -/
theorem bindL_stay {kindOf : Str → Option NameKind} {x : Str} : ∀ (r : List (Str × Value)) (m : Str → Option Value), x ∉ r.map (·.1) → bindL kindOf r m x = m x
  | [], m, _ => rfl
  | (z, u) :: r, m, hx => by
    rw [List.map_cons, List.mem_cons, not_or] at hx
    unfold bindL
    rw [bindL_stay r _ hx.2]
    split
    · exact if_neg hx.1
    · rfl
theorem bindC_stay {kindOf : Str → Option NameKind} {x : Str} : ∀ (r : List (Str × Value)) (m : Str → Option Value), x ∉ r.map (·.1) → bindC kindOf r m x = m x
  | [], m, _ => rfl
  | (z, u) :: r, m, hx => by
    rw [List.map_cons, List.mem_cons, not_or] at hx
    unfold bindC
    rw [bindC_stay r _ hx.2]
    split
    · rfl
    · exact if_neg hx.1
theorem bindL_at {kindOf : Str → Option NameKind} {x : Str} {v : Value} (hk : kindOf x = some .local) : ∀ (binds : List (Str × Value)) (m : Str → Option Value), (binds.map (·.1)).Nodup → (x, v) ∈ binds → bindL kindOf binds m x = some v
  | (y, w) :: r, m, hn, hm => by
    rw [List.map_cons, List.nodup_cons] at hn
    unfold bindL
    rcases List.mem_cons.mp hm with e | hm
    · obtain ⟨e1, e2⟩ := Prod.mk.inj e
      rw [bindL_stay r _ (e1 ▸ hn.1), ← e1, if_pos hk, ← e2]; exact if_pos rfl
    · exact bindL_at hk r _ hn.2 hm
theorem bindC_at {kindOf : Str → Option NameKind} {x : Str} {v : Value} (hk : kindOf x = some .cell) : ∀ (binds : List (Str × Value)) (m : Str → Option Value), (binds.map (·.1)).Nodup → (x, v) ∈ binds → bindC kindOf binds m x = some v
  | (y, w) :: r, m, hn, hm => by
    rw [List.map_cons, List.nodup_cons] at hn
    unfold bindC
    have hnl : ¬ kindOf x = some .local := by rw [hk]; decide
    rcases List.mem_cons.mp hm with e | hm
    · obtain ⟨e1, e2⟩ := Prod.mk.inj e
      rw [bindC_stay r _ (e1 ▸ hn.1), ← e1, if_neg hnl, ← e2]; exact if_pos rfl
    · exact bindC_at hk r _ hn.2 hm

theorem cells_names : ∀ (names : List (Str × NameKind)) (n : Nat) (acc : List (Str × Addr)), (names.map (·.1)).Nodup → (acc.map (·.1)).Nodup → (∀ x ∈ names, x.1 ∉ acc.map (·.1)) → ((cellsFrom n names acc).map (·.1)).Nodup
  | [], _, acc, _, h, _ => h
  | (y, k) :: r, n, acc, h1, h2, h3 => by
    rw [List.map_cons, List.nodup_cons] at h1
    unfold cellsFrom
    by_cases hk : (k == NameKind.cell) = true
    · rw [if_pos hk]
      refine cells_names r _ _ h1.2 (by rw [List.map_cons, List.nodup_cons]; exact ⟨h3 _ (.head _), h2⟩) fun x hx hm => ?_
      rw [List.map_cons] at hm
      rcases List.mem_cons.mp hm with e | hm
      · exact h1.1 (by rw [← e]; exact List.mem_map_of_mem hx)
      · exact h3 x (.tail _ hx) hm
    · rw [if_neg hk]
      exact cells_names r _ _ h1.2 h2 fun x hx => h3 x (.tail _ hx)
theorem cells_nodup (names : List (Str × NameKind)) (n : Nat) (h : (names.map (·.1)).Nodup) : ((cellsFrom n names []).map (·.1)).Nodup := cells_names names n [] h List.nodup_nil fun _ _ q => nomatch q
theorem cells_one {cl : List (Str × Addr)} (nd : (cl.map (·.1)).Nodup) {x : Str} {a b : Addr} (h1 : (x, a) ∈ cl) (h2 : (x, b) ∈ cl) : a = b := by
  induction cl with
  | nil => cases h1
  | cons p r ih =>
    obtain ⟨y, c⟩ := p
    rw [List.map_cons, List.nodup_cons] at nd
    rcases List.mem_cons.mp h1 with e | h1' <;> rcases List.mem_cons.mp h2 with e' | h2'
    · cases e; cases e'; rfl
    · cases e; exact absurd (List.mem_map_of_mem (f := (·.1)) h2') nd.1
    · cases e'; exact absurd (List.mem_map_of_mem (f := (·.1)) h1') nd.1
    · exact ih nd.2 h1' h2'
/-- a def of the text, as it stands in the ground heap -/
structure FnAt (G : Gl) (name : Str) (params : Arguments) (body : List Stmt) (scope : Scope) (f : Addr) : Prop where
  at' : ∃ oc od osl qual doc pm cdv ct, G.g₀.get? f = some ⟨oc, od, .func (fnOf name qual params body scope .none .none doc pm none cdv ct), osl⟩ ∧ G.g₀.CodeRec cdv qual ∧ (isT scope = true → cdv = .ref G.tc)
  glob : G.mg name = some (.ref f)

theorem RepAll.length {bad : Addr → Prop} {h : Heap} : ∀ {l : List V} {vs : List Value}, RepAll bad h l vs → vs.length = l.length
  | [], [], _ => rfl
  | [], _ :: _, h => h.elim
  | _ :: _, [], h => h.elim
  | _ :: _, _ :: _, h => by rw [List.length_cons, List.length_cons, h.2.length]
theorem RepAll.get {bad : Addr → Prop} {h : Heap} : ∀ {l : List V} {vs : List Value} {i : Nat} {v : V}, RepAll bad h l vs → l[i]? = some v → ∃ val, vs[i]? = some val ∧ Rep bad h v val
  | [], _, _, _, _, h => by simp at h
  | _ :: _, [], _, _, h, _ => h.elim
  | a :: l, v :: vs, 0, w, h, e => by simp at e; subst e; exact ⟨v, rfl, h.1⟩
  | a :: l, v :: vs, i + 1, w, h, e => by simp at e; obtain ⟨val, h1, h2⟩ := RepAll.get h.2 e; exact ⟨val, by simpa using h1, h2⟩

noncomputable def retOf (r : V) (f : Flo) (_ : List V) : Prop := match f with
  | .ret v => v = r
  | .next => r = .none
  | _ => False
noncomputable def owN (ow : Nat → Option Addr) (k : Nat) : Nat → Option Addr := fun j => if j = k then none else ow j
theorem owN_same {ow : Nat → Option Addr} {k : Nat} : owN ow k k = none := if_pos rfl
theorem owN_ne {ow : Nat → Option Addr} {k j : Nat} (h : j ≠ k) : owN ow k j = ow j := if_neg h
section
variable {G : Gl} {n : Nat} {F : Scope} {t : Bool} {σ : List V} {pos : Pos}

theorem t_is {e : Expr} {σ : List V} {b c : Bool} (h : ET G n F t e σ b) (q : b = c) : ET G n F t e σ c := q ▸ h
theorem e_is {e : Expr} {σ : List V} {v w : V} (h : EP G n F t e σ v) (q : v = w) : EP G n F t e σ w := q ▸ h
theorem f_is {e : Expr} {σ : List V} {v w : List V} (h : EF G n F t e σ v) (q : v = w) : EF G n F t e σ w := q ▸ h
theorem EF.weak {e : Expr} {l : List V} (h : EF G n F false e σ l) : EF G n F t e σ l := fun D ow s E O R =>
  wpAny_mono (h D ow s E O R) (fun val s' x => ⟨x.1, x.2.1.weak, x.2.2⟩) fun _ _ x => x
theorem CallV.weak {f : Value} {args : List V} {r : V} (h : CallV G n false f args r) : CallV G n t f args r := fun A mu s vals E rm ar rv =>
  wpAny_mono (h A mu s vals E rm ar rv) (fun val s' x => ⟨x.1, x.2.1.weak, x.2.2⟩) fun _ _ x => x

/-- x += e -/
theorem x_aug_int {x : Str} {e : Expr} {k : Nat} {kd : NameKind} {a b : Int} {np : Pos} {Q : Flo → List V → Prop} (hk : idx F x = some (k, kd)) (hkd : (kd == .local || kd == .cell) = true) (hv : σ[k]? = some (.int a)) (he : EP G n F t e σ (.int b)) (h : Q .next (σ.set k (.int (a + b)))) :
    EX1 G n F t (.AugAssign (.Name x np) .Add e pos) σ Q := fun D ow s E O R => by
  have hl : k < σ.length := (List.getElem?_eq_some_iff.mp hv).1
  refine wpAny_AugAssign_Name (wp_name O R hk hkd hv (by intro e; cases e) fun val r => ?_)
  obtain ⟨u, rfl⟩ : ∃ u, val = .int a u := r
  refine he.go O R fun val2 s1 r1 K1 R1 => ?_
  obtain ⟨u2, rfl⟩ := r1
  refine wpAny_iadd_int ?_
  have R1' : Rel G D ow σ { s1 with toks := s1.toks + 1 } := R1.kt O (Kt.tok (t := t) _) (Nat.le_succ _) R1.tab
  exact wp_store O R1' hk hkd hl (v := .int (a + b)) ⟨_, rfl⟩ fun s2 R2 K2 => ⟨.next, _, ow, trivial, R2, ((KX.of_kt K1).trans (KX.of_kt (Kt.tok _)) (OwG.refl _ _)).trans K2.weak (OwG.refl _ _), OwG.refl _ _, h⟩
theorem x_aug_str {x : Str} {e : Expr} {k : Nat} {kd : NameKind} {a b : Str} {np : Pos} {Q : Flo → List V → Prop} (hk : idx F x = some (k, kd)) (hkd : (kd == .local || kd == .cell) = true) (hv : σ[k]? = some (.str a)) (he : EP G n F t e σ (.str b)) (hz : a.length + b.length ≤ 16777216) (h : Q .next (σ.set k (.str (a ++ b)))) :
    EX1 G n F t (.AugAssign (.Name x np) .Add e pos) σ Q := fun D ow s E O R => by
  have hl : k < σ.length := (List.getElem?_eq_some_iff.mp hv).1
  refine wpAny_AugAssign_Name (wp_name O R hk hkd hv (by intro e; cases e) fun val r => ?_)
  obtain ⟨u, rfl⟩ : ∃ u, val = .str a u := r
  refine he.go O R fun val2 s1 r1 K1 R1 => wpAny_with_toks (n := s1.toks) (Nat.le_refl _) ?_
  obtain ⟨u2, rfl⟩ := r1
  refine SB.iadd (fun t' k' htk => ?_) (by rw [sizeLine_eq]; exact hz)
  have R1' : Rel G D ow σ { s1 with toks := k' } := R1.kt O (Kt.tok (t := t) _) htk R1.tab
  exact wp_store O R1' hk hkd hl (v := .str (a ++ b)) ⟨_, rfl⟩ fun s2 R2 K2 => ⟨.next, _, ow, trivial, R2, ((KX.of_kt K1).trans (KX.of_kt (Kt.tok _)) (OwG.refl _ _)).trans K2.weak (OwG.refl _ _), OwG.refl _ _, h⟩

theorem len1 {α : Type} : ∀ {l : List α}, l.length = 1 → ∃ a, l = [a]
  | [a], _ => ⟨a, rfl⟩
theorem len2 {α : Type} : ∀ {l : List α}, l.length = 2 → ∃ a b, l = [a, b]
  | [a, b], _ => ⟨a, b, rfl⟩
theorem len3 {α : Type} : ∀ {l : List α}, l.length = 3 → ∃ a b c, l = [a, b, c]
  | [a, b, c], _ => ⟨a, b, c, rfl⟩
/-- a, b = (e, f): the stores go from the right -/
theorem x_pair {x y : Str} {e : Expr} {kx ky : Nat} {kdx kdy : NameKind} {v w : V} {px py tp : Pos} {q : Nat} {Q : Flo → List V → Prop} (hx : idx F x = some (kx, kdx)) (hdx : (kdx == .local || kdx == .cell) = true) (hy : idx F y = some (ky, kdy)) (hdy : (kdy == .local || kdy == .cell) = true)
    (he : EP G n F t e σ (.tuple [v, w])) (hlx : kx < σ.length) (hly : ky < σ.length)
    (hs : ∀ env : Env, env.scope = F → swapsWithSole [.Tuple [.Name x px, .Name y py] q tp] e pos.line env = pure false) (hw : ∀ env : Env, env.scope = F → swappedStores [.Tuple [.Name x px, .Name y py] q tp] e env = pure (some [x, y]))
    (h : Q .next ((σ.set ky w).set kx v)) : EX1 G n F t (.Assign [.Tuple [.Name x px, .Name y py] q tp] e pos) σ Q := fun D ow s E O R => by
  refine PyProof.Rows.Assign_Tuple_swapped (he.go O R fun val s1 r1 K1 R1 => ?_) (hs _ O.scope) (hw _ O.scope)
  obtain ⟨a, items, rfl, na, hp, hr⟩ := r1
  have hlen := hr.length
  obtain ⟨i1, i2, rfl⟩ := len2 hlen
  obtain ⟨r1, r2, _⟩ := hr
  have hp2 : s1.heap.IsTuple a #[i1, i2] := hp
  refine wpAny_unpackItems_tuple (items := #[i1, i2]) O.room.2.2 hp2 (fun h' hext => ?_)
  have Kh : Kt G t s1 { s1 with heap := h' } := ⟨h', s1.toks, rfl, fun b o _ e => hext b o (Nat.ne_of_lt (Heap.lt_size e)) e⟩
  have R2 : Rel G D ow σ { s1 with heap := h' } := R1.kt O Kh (Nat.le_refl _) (Gl.tabKt R1.tab fun b o e => hext b o (Nat.ne_of_lt (Heap.lt_size e)) e)
  have e1 : ([x, y].reverse.map fun n => bindName D.env n) = [bindName D.env y, bindName D.env x] := rfl
  have e2 : (#[i1, i2] : Array Value).toList.reverse = [i2, i1] := rfl
  rw [e1, e2]
  refine wpAny_assignInOrder_more (wpAny_bindName (wp_store O R2 hy hdy hly (v := w) (repVar_of (repA_rep r2) r2.plain) fun s3 R3 K3 => ?_))
  refine wpAny_assignInOrder_more (wpAny_bindName (wp_store O R3 hx hdx (by rw [List.length_set]; exact hlx) (v := v) (repVar_of (repA_rep r1) r1.plain) fun s4 R4 K4 => ?_))
  refine wpAny_assignInOrder_none ⟨.next, _, ow, trivial, R4, (((KX.of_kt K1).trans (KX.of_kt Kh) (OwG.refl _ _)).trans K3.weak (OwG.refl _ _)).trans K4.weak (OwG.refl _ _), OwG.refl _ _, h⟩

/-- a, b, c = e -/
theorem x_three {x y z : Str} {e : Expr} {kx ky kz : Nat} {kdx kdy kdz : NameKind} {u v w : V} {px py pz tp : Pos} {q : Nat} {Q : Flo → List V → Prop} (hx : idx F x = some (kx, kdx)) (hdx : (kdx == .local || kdx == .cell) = true) (hy : idx F y = some (ky, kdy)) (hdy : (kdy == .local || kdy == .cell) = true)
    (hz : idx F z = some (kz, kdz)) (hdz : (kdz == .local || kdz == .cell) = true)
    (he : EP G n F t e σ (.tuple [u, v, w])) (hlx : kx < σ.length) (hly : ky < σ.length) (hlz : kz < σ.length)
    (hs : ∀ env : Env, env.scope = F → swapsWithSole [.Tuple [.Name x px, .Name y py, .Name z pz] q tp] e pos.line env = pure false) (hw : ∀ env : Env, env.scope = F → swappedStores [.Tuple [.Name x px, .Name y py, .Name z pz] q tp] e env = pure none)
    (h : Q .next (((σ.set kx u).set ky v).set kz w)) : EX1 G n F t (.Assign [.Tuple [.Name x px, .Name y py, .Name z pz] q tp] e pos) σ Q := fun D ow s E O R => by
  refine PyProof.Rows.Assign_Tuple (he.go O R fun val s1 r1 K1 R1 => ?_) (hs _ O.scope) (hw _ O.scope)
  obtain ⟨a, items, rfl, na, hp, hr⟩ := r1
  have hlen := hr.length
  obtain ⟨i1, i2, i3, rfl⟩ := len3 hlen
  obtain ⟨r1, r2, r3, _⟩ := hr
  refine wpAny_assign_Tuple (items := [i1, i2, i3].toArray) O.room.2.2 hp rfl rfl (fun h' hext => ?_)
  have Kh : Kt G t s1 { s1 with heap := h' } := ⟨h', s1.toks, rfl, fun b o _ e => hext b o (Nat.ne_of_lt (Heap.lt_size e)) e⟩
  have R2 : Rel G D ow σ { s1 with heap := h' } := R1.kt O Kh (Nat.le_refl _) (Gl.tabKt R1.tab fun b o e => hext b o (Nat.ne_of_lt (Heap.lt_size e)) e)
  show wpAny _ _ (assignInOrder [assign (.Name x px) D.env, assign (.Name y py) D.env, assign (.Name z pz) D.env] [i1, i2, i3]) _ _ _
  refine wpAny_assignInOrder_more (wpAny_assign_Name (wp_store O R2 hx hdx hlx (v := u) (repVar_of (repA_rep r1) r1.plain) fun s3 R3 K3 => ?_))
  refine wpAny_assignInOrder_more (wpAny_assign_Name (wp_store O R3 hy hdy (by rw [List.length_set]; exact hly) (v := v) (repVar_of (repA_rep r2) r2.plain) fun s4 R4 K4 => ?_))
  refine wpAny_assignInOrder_more (wpAny_assign_Name (wp_store O R4 hz hdz (by rw [List.length_set, List.length_set]; exact hlz) (v := w) (repVar_of (repA_rep r3) r3.plain) fun s5 R5 K5 => ?_))
  refine wpAny_assignInOrder_none ⟨.next, _, ow, trivial, R5, ((((KX.of_kt K1).trans (KX.of_kt Kh) (OwG.refl _ _)).trans K3.weak (OwG.refl _ _)).trans K4.weak (OwG.refl _ _)).trans K5.weak (OwG.refl _ _), OwG.refl _ _, h⟩

theorem Reps.set : ∀ {l : List V} {vs : List Value} (i : Nat) {v : V} {val : Value}, Reps l vs → RepA v val → Reps (l.set i v) (vs.set i val)
  | [], [], _, _, _, _, _ => trivial
  | [], _ :: _, _, _, _, h, _ => h.elim
  | _ :: _, [], _, _, _, h, _ => h.elim
  | _ :: _, _ :: _, 0, _, _, h, r => ⟨r, h.2⟩
  | _ :: _, _ :: _, i + 1, _, _, h, r => ⟨h.1, h.2.set i r⟩
/-- xs[i] = e on the frame's own list -/
theorem x_setitem {x : Str} {e ie : Expr} {k : Nat} {kd : NameKind} {l : List V} {v : V} {i : Int} {j : Nat} {p spos : Pos} {Q : Flo → List V → Prop} (hk : idx F x = some (k, kd)) (hkd : (kd == .local || kd == .cell) = true) (hv : σ[k]? = some (.own l)) (hd : (x == ("__debug__" : Str)) = false)
    (he : EP G n F false e σ v) (ha : atoms [v] = true) (hi : EP G n F false ie σ (.int i)) (hj : (0 ≤ i ∧ j = i.toNat) ∨ (i < 0 ∧ -(l.length : Int) ≤ i ∧ j = (i + l.length).toNat)) (hjl : j < l.length) (hb : -1000000 ≤ i ∧ i ≤ 1000000)
    (hsw : ∀ env : Env, env.scope = F → swapsWith e (some (.Subscript (.Name x p) ie spos)) pos.line env = pure false) (h : Q .next (σ.set k (.own (l.set j v)))) :
    EX1 G n F t (.Assign [.Subscript (.Name x p) ie spos] e pos) σ Q := fun D ow s E O R => by
  refine wpAny_Assign_Subscript (he.go O R fun val s1 r1 K1 R1 => ?_) (hsw _ O.scope)
  refine wpAny_Name (wp_name O R1 hk hkd hv (by intro e; cases e) fun vl r => ?_) hd
  obtain ⟨a, items, rfl, hao, hp, hr⟩ := r
  refine hi.go O R1 fun iv s2 r2 K2 R2 => ?_
  obtain ⟨u, rfl⟩ := r2
  have hp2 : s2.heap.PlainList a items.toArray := PlainList.mono hp fun o e => K2.strict _ o e
  obtain ⟨k0, e0⟩ := id hp2
  have hlen := hr.length
  have rv := atom_of r1 ha
  have fin : XPost G t D ow s Q .next { s2 with heap := s2.heap.update a (Obj.mapSeq (·.setIfInBounds j val)) } := by
    have hsb := Heap.SameBut.update s2.heap a (Obj.mapSeq (·.setIfInBounds j val))
    have hup := Heap.get?_update_self (Obj.mapSeq (·.setIfInBounds j val)) e0 rfl
    refine ⟨.next, _, ow, trivial, R2.own_upd (tk := s2.toks) O hao hsb ⟨_, hup⟩ (Nat.le_refl _) hv (by intro e; cases e) (fun w r => ?_), (((KX.of_kt K1).trans (KX.of_kt K2) (OwG.refl _ _)).weak).trans (kx_own hao hsb) (OwG.refl _ _), OwG.refl _ _, h⟩
    obtain ⟨a', items', rfl, e, _, _⟩ := r
    rw [hao] at e; cases e
    refine ⟨a, items.set j val, rfl, hao, ⟨k0, ?_⟩, hr.set j rv⟩
    rw [hup]
    have e1 : items.toArray.setIfInBounds j val = (items.set j val).toArray := by simp
    simp only [Obj.mapSeq, e1]
    have e2 : ((items.set j val).toArray.size == items.toArray.size) = true := by simp
    rw [e2]; rfl
  rcases hj with ⟨h0, rfl⟩ | ⟨h0, h1, rfl⟩
  · exact ki_setAt e0 h0 (by omega) (by rw [List.size_toArray, hlen]; omega) fin
  · refine ki_setBack e0 h0 (by rw [List.size_toArray, hlen]; exact h1) (by omega) ?_
    rw [List.size_toArray, hlen]; exact fin

/-- the frame's own list is left as it is from here on -/
theorem Rel.freeze {D : Dyn} {ow : Nat → Option Addr} {s : Shared} {k : Nat} {l : List V} (R : Rel G D ow σ s) (hv : σ[k]? = some (.own l)) (hb : ∀ v ∈ σ, v ≠ .bound k) : Rel G D (owN ow k) (σ.set k (.list l)) s := by
  have hlen : k < σ.length := (List.getElem?_eq_some_iff.mp hv).1
  have bad : ∀ b, Bad D (owN ow k) b → Bad D ow b := by
    rintro b (h | ⟨j, h⟩)
    · exact .inl h
    · by_cases hj : j = k
      · rw [hj, owN_same] at h; cases h
      · rw [owN_ne hj] at h; exact .inr ⟨j, h⟩
  have nk : ∀ {a : Addr}, ow k = some a → ¬ Bad D (owN ow k) a := by
    rintro a ha (h | ⟨j, h⟩)
    · exact (R.own k a ha).1 h
    · by_cases hj : j = k
      · rw [hj, owN_same] at h; cases h
      · rw [owN_ne hj] at h; exact hj (R.inj j k a h ha)
  have rv : ∀ j v val, j ≠ k → v ∈ σ → RepVar D ow s.heap j v val → RepVar D (owN ow k) s.heap j v val := by
    intro j v val hj hm r
    cases v with
    | own l => obtain ⟨b, items, rfl, e, x, y⟩ := r; exact ⟨b, items, rfl, (owN_ne hj).trans e, x, y⟩
    | ownA l => obtain ⟨b, items, rfl, e, x, y⟩ := r; exact ⟨b, items, rfl, (owN_ne hj).trans e, x, y⟩
    | bound i =>
      obtain ⟨q, b, rfl, e, nb, x⟩ := r
      have hik : i ≠ k := fun h => hb _ hm (by rw [h])
      exact ⟨q, b, rfl, (owN_ne hik).trans e, fun h => nb (bad q h), x⟩
    | loan l => exact r
    | list l => exact Rep.mono (v := .list l) r (fun b q => .inl (bad b q)) (fun _ _ _ e => e) (by intro l e; cases e)
    | arr l => exact Rep.mono (v := .arr l) r (fun b q => .inl (bad b q)) (fun _ _ _ e => e) (by intro l e; cases e)
    | tuple l => exact Rep.mono (v := .tuple l) r (fun b q => .inl (bad b q)) (fun _ _ _ e => e) (by intro l e; cases e)
    | range b c d => exact Rep.mono (v := .range b c d) r (fun b q => .inl (bad b q)) (fun _ _ _ e => e) (by intro l e; cases e)
    | _ => exact r
  have at_ : ∀ j w val, (σ.set k (.list l))[j]? = some w → (∀ u, σ[j]? = some u → u ≠ .unb → RepVar D ow s.heap j u val) → w ≠ .unb → RepVar D (owN ow k) s.heap j w val := by
    intro j w val e hr hw
    by_cases hj : j = k
    · subst hj
      rw [List.getElem?_set_self hlen] at e
      cases e
      obtain ⟨a, items, rfl, ea, x, y⟩ := hr _ hv (by intro e; cases e)
      exact ⟨a, items, rfl, nk ea, x, y⟩
    · rw [List.getElem?_set_ne (Ne.symm hj)] at e
      exact rv j w val hj (List.mem_of_getElem? e) (hr w e hw)
  have un : ∀ (j : Nat) (w : V), (σ.set k (.list l))[j]? = some w → w ≠ V.unb → ∃ u, σ[j]? = some u ∧ u ≠ V.unb := by
    intro j w e hw
    by_cases hj : j = k
    · subst hj; exact ⟨_, hv, by intro e; cases e⟩
    · rw [List.getElem?_set_ne (Ne.symm hj)] at e; exact ⟨w, e, hw⟩
  refine ⟨R.keep, R.toks, G.tabKeep R.tab (fun b q => .inl (bad b q)) fun _ _ _ e => e, R.live, ?_, fun j y e1 => ?_, fun j a e => ?_, fun j j' a e e' => ?_⟩
  · obtain ⟨m, hn, hm⟩ := R.ns
    refine ⟨m, hn, fun j y w e1 e2 e3 => ?_⟩
    obtain ⟨u, hu, hu'⟩ := un j w e2 e3
    obtain ⟨val, p1, p2⟩ := hm j y u e1 hu hu'
    exact ⟨val, p1, at_ j w val e2 (fun u' h1 _ => by rw [hu] at h1; cases h1; exact p2) e3⟩
  · obtain ⟨c, vo, p1, p2, p3⟩ := R.cells j y e1
    refine ⟨c, vo, p1, p2, fun w e2 e3 => ?_⟩
    obtain ⟨u, hu, hu'⟩ := un j w e2 e3
    obtain ⟨val, q1, q2⟩ := p3 u hu hu'
    exact ⟨val, q1, at_ j w val e2 (fun u' h1 _ => by rw [hu] at h1; cases h1; exact q2) e3⟩
  · by_cases hj : j = k
    · rw [hj, owN_same] at e; cases e
    · rw [owN_ne hj] at e; exact R.own j a e
  · by_cases hj : j = k
    · rw [hj, owN_same] at e; cases e
    · by_cases hj' : j' = k
      · rw [hj', owN_same] at e'; cases e'
      · rw [owN_ne hj] at e; rw [owN_ne hj'] at e'; exact R.inj j j' a e e'
theorem x_freeze {ss : List Stmt} {k : Nat} {l : List V} {Q : Flo → List V → Prop} (hv : σ[k]? = some (.own l)) (hb : ∀ v ∈ σ, v ≠ .bound k) (h : EX G n F t ss (σ.set k (.list l)) Q) : EX G n F t ss σ Q := fun D ow s E O R => by
  refine wpAny_mono (h D _ s E O (R.freeze hv hb)) (fun fl s' x => ?_) fun _ _ x => x
  have g : OwG ow (owN ow k) s := fun j a e => by
    by_cases hj : j = k
    · rw [hj, owN_same] at e; cases e
    · rw [owN_ne hj] at e; exact .inl ⟨j, e⟩
  exact x.trans O (R.freeze hv hb) (KX.refl ..) g
/-- the facts behind a store that a heap already shows -/
theorem Rel.stored {D : Dyn} {ow : Nat → Option Addr} {s : Shared} {m : Str → Option Value} {x : Str} {k : Nat} {v : V} {val : Value} {h' : Heap} {tk : Nat} (O : D.Ok G n F) (R : Rel G D ow σ s)
    (hm : ∀ k x v, D.env.scope.names[k]? = some (x, .local) → σ[k]? = some v → v ≠ .unb → ∃ val, m x = some val ∧ RepVar D ow s.heap k v val)
    (hk : idx F x = some (k, .local)) (hl : k < σ.length) (hn : h'.Ns D.env.locals (fun z => if z = x then some val else m z)) (hkeep : ∀ b o, b ≠ D.env.locals → s.heap.get? b = some o → h'.get? b = some o) (ht : G.t0 ≤ tk) (r : RepVar D ow h' k v val) :
    Rel G D ow (σ.set k v) { s with heap := h', toks := tk } := by
  have hs := O.scope
  obtain ⟨h1, h2⟩ := idx_at hk
  have a5 : ∀ k v val, RepVar D ow s.heap k v val → RepVar D ow h' k v val := fun k v val rv => rv.mono fun b o hb e => hkeep b o (fun q => by
    rcases hb with hb | hb
    · exact hb (.inl (q ▸ O.mutL))
    · exact (R.own k b hb).1 (q ▸ O.mutL)) e
  have getset : ∀ j w, (σ.set k v)[j]? = some w → (j = k ∧ w = v) ∨ (j ≠ k ∧ σ[j]? = some w) := by
    intro j w e
    by_cases hj : j = k
    · subst hj
      rw [List.getElem?_set_self hl] at e
      exact .inl ⟨rfl, (Option.some.inj e).symm⟩
    · rw [List.getElem?_set_ne (Ne.symm hj)] at e
      exact .inr ⟨hj, e⟩
  refine ⟨fun b o e => hkeep b o (fun q => by rw [q, O.noL] at e; cases e) (R.keep b o e), ht, ?_, fun b hb => ?_, ⟨_, hn, fun j y w e1 e2 e3 => ?_⟩, fun j y e1 => ?_, fun j a e => ?_, R.inj⟩
  · refine G.tabKeep R.tab (fun _ q => .inl q) fun b o hb e => hkeep b o (fun q => ?_) e
    rcases hb with hb | hb
    · exact O.LT (q ▸ hb)
    · exact hb (.inl (q ▸ O.mutL))
  · by_cases q : b = D.env.locals
    · subst q; obtain ⟨o, _, _, e, _⟩ := hn; exact ⟨o, e⟩
    · obtain ⟨o, e⟩ := R.live b hb; exact ⟨o, hkeep b o q e⟩
  · rcases getset j w e2 with ⟨rfl, rfl⟩ | ⟨hj, e2'⟩
    · have : y = x := by
        rw [hs, h1] at e1
        exact (Prod.mk.inj (Option.some.inj e1)).1.symm
      subst this
      exact ⟨val, by simp, r⟩
    · have hy : y ≠ x := by
        intro q; subst q
        rw [hs] at e1
        exact hj (nodup_at O.nodup e1 h1)
      obtain ⟨val', p1, p2⟩ := hm j y w e1 e2' e3
      exact ⟨val', by simp [hy, p1], a5 _ _ _ p2⟩
  · obtain ⟨c, vo, p1, ⟨oc, hoc, hd⟩, p3⟩ := R.cells j y e1
    refine ⟨c, vo, p1, ⟨oc, hkeep c oc (O.LC (y, c) (mem_of_lookup p1)) hoc, hd⟩, fun w e2 e3 => ?_⟩
    rcases getset j w e2 with ⟨rfl, rfl⟩ | ⟨hj, e2'⟩
    · rw [hs, h1] at e1; cases e1
    · obtain ⟨val', q1, q2⟩ := p3 w e2' e3
      exact ⟨val', q1, a5 _ _ _ q2⟩
  · obtain ⟨p1, ⟨o, p2⟩, p3⟩ := R.own j a e
    exact ⟨p1, ⟨o, hkeep a o (fun q => p1 (q ▸ O.mutL)) p2⟩, p3⟩
/-- xs = [.. for ..]: the store stands within the comprehension -/
theorem x_assign_comp {x : Str} {k : Nat} {kd : NameKind} {elt iter : Expr} {ifs : List Expr} {y : Str} {kx : Nat} {px p cpos : Pos} {scope : Scope} {src : V} {N : Nat} {vs : Nat → V} {Q : Flo → List V → Prop} (q : V → Bool) (f : V → V) (σc : V → List V)
    (hk : idx F x = some (k, .local)) (hl : k < σ.length)
    (hi : EP G n F false iter σ src) (hs : ∀ env v, foldedSetIterable iter env v = pure v) (ok : SrcOk src N vs) (hN : N ≤ 100000) (hcan : ∀ i, i < N → canon (vs i)) (C : Clo G n F scope σ σc)
    (hcell : ∀ y ∈ scope.names, y.2 ≠ .cell) (hkind : scope.kind = .function) (hnames : ∀ y ∈ scope.names, y.2 = .local → scope.names.lookup y.1 = some .local) (hnd : (scope.names.map (·.1)).Nodup) (hxl : scope.names.lookup y = some .local)
    (hx : idx (rl scope F) y = some (kx, .local)) (hxw : ∀ v, (σc v)[kx]? = some v) (hloc : ∀ v (k : Nat) (y : Str) u, (rl scope F).names[k]? = some (y, NameKind.local) → (σc v)[k]? = some u → u ≠ .unb → k = kx)
    (htest : ∀ i, i < N → IfsOk G n (rl scope F) ifs (σc (vs i)) (q (vs i))) (helt : ∀ i, i < N → q (vs i) = true → EP G n (rl scope F) false elt (σc (vs i)) (f (vs i)) ∧ atoms [f (vs i)] = true)
    (hsw : ∀ env : Env, env.scope = F → swapsWith (.ListComp elt [⟨.Name y px, iter, ifs, 0⟩] scope cpos) (some (.Name x p)) pos.line env = pure true)
    (h : Q .next (σ.set k (.list ((((List.range N).map vs).filter q).map f)))) (hcT : isT scope = false := by decide +kernel) : EX1 G n F t (.Assign [.Name x p] (.ListComp elt [⟨.Name y px, iter, ifs, 0⟩] scope cpos) pos) σ Q := fun D ow s E O R => by
  have hkind' : D.env.scope.kind = .function := by rw [O.scope]; exact O.kind
  obtain ⟨cl, hclos, hcl, hap, hce⟩ := C.cl D ow s O R
  refine wpAny_with_toks (n := s.toks) (Nat.le_refl _) ?_
  refine wpAny_Assign_ListComp_free (fun v => q (toV v)) (fun v y => RepA (f (toV v)) y) (hsw _ O.scope) hclos hcell hkind hnames hxl (by unfold Env.kindOf; rw [O.scope]; exact (idx_at hk).2) (by rw [hkind']; rfl) ?_ (hs D.env)
  refine hi.go O R fun val s1 r1 K1 R1 => wp_iter O.room.2.2 r1 ok fun I fp wr P St s₂ K2 htk2 W hst hfp hwr hP => ?_
  have W' := walks_bounded W
  have R2 : Rel G D ow σ s₂ := R1.kt O (K2.weak (t := t)) (Nat.le_of_eq htk2) (Gl.tabKt R1.tab K2.strict)
  have hLw : D.env.locals ∉ wr := fun h => by obtain ⟨o, e⟩ := R1.live _ O.mutL; rw [hwr _ h] at e; cases e
  obtain ⟨m, hmn, hmv⟩ := id R2.ns
  refine ⟨I, fp, wr, N, _, St, m, rfl, W', by rw [sizeLine_eq]; omega, hst, hfp, hLw, hmn, ⟨?_, ?_⟩, ?_⟩
  · intro C' i v s₃ m₃ E' hC hPv hn hm hk ht
    have ra := hP i v hPv.1 hPv.2
    obtain ⟨D', hA, hE, O', R'⟩ := comp_state (scope := scope) (cl := cl) (C := C') (σc := σc (vs i)) O R1 (fun b o e => hk b o (fun hb => by rw [hwr b hb] at e; cases e) (K2.strict b o e)) (by rw [htk2]; exact ht)
      (dead_of K2 hC) hn hm ra hkind hnd hx (hxw _) (hloc _) hcl hap (fun k y e => by
        obtain ⟨c, ky, z1, z2, z3, z4⟩ := hce k y e
        exact ⟨c, ky, z1, z2, z3, z4 _⟩) hcT
    have g := ifs_go (E := E') (htest i hPv.1) O' R'
    rw [hA, hE] at g
    refine wpAny_mono g (fun okb s₄ y => ⟨y.1.trans ?_, y.2⟩) fun _ _ y => y
    show q (vs i) = q (toV v)
    rw [toV_of ra (hcan i hPv.1)]
  · intro C' i v s₃ m₃ E' hC hPv hpv hn hm hk ht
    have ra := hP i v hPv.1 hPv.2
    have etv := toV_of ra (hcan i hPv.1)
    rw [etv] at hpv
    obtain ⟨D', hA, hE, O', R'⟩ := comp_state (scope := scope) (cl := cl) (C := C') (σc := σc (vs i)) O R1 (fun b o e => hk b o (fun hb => by rw [hwr b hb] at e; cases e) (K2.strict b o e)) (by rw [htk2]; exact ht)
      (dead_of K2 hC) hn hm ra hkind hnd hx (hxw _) (hloc _) hcl hap (fun k y e => by
        obtain ⟨c, ky, z1, z2, z3, z4⟩ := hce k y e
        exact ⟨c, ky, z1, z2, z3, z4 _⟩) hcT
    obtain ⟨he, hat⟩ := helt i hPv.1 hpv
    have g := he D' _ s₃ E' O' R'
    rw [hA, hE] at g
    refine wpAny_mono g (fun y s₄ z => ⟨?_, ?_⟩) fun _ _ y => y
    · show RepA (f (toV v)) y
      rw [etv]
      exact atom_of z.1 hat
    · obtain ⟨_, ⟨h', tk, e, kk⟩, _⟩ := z
      exact ⟨h', tk, e, fun b o e => kk b o (by intro h; cases h) e⟩
  · intro D' h' tk ys vals hD hl' hpl hlen hPj hPair hn' hk' htk
    have hus := reps_range (vs := vs) N hlen hPj (fun i v hi hv => hP i v hv.1 hv.2)
    have hre := paired_reps (f := f) (q := q) hus (fun u hu => by
      obtain ⟨i, hi, rfl⟩ := List.mem_map.mp hu
      exact hcan i (List.mem_range.mp hi)) hPair
    have keep1 : ∀ b o, b ≠ D.env.locals → s1.heap.get? b = some o → h'.get? b = some o := fun b o hb e => hk' b o hb (fun h => by rw [hwr b h] at e; cases e) (K2.strict b o e)
    have dead1 : s1.heap.get? D' = none := by
      cases e : s1.heap.get? D' with
      | none => rfl
      | some o => rw [K2.strict _ _ e] at hD; cases hD
    obtain ⟨m1, hmn1, hmv1⟩ := id R1.ns
    have hm1 : ∀ k x v, D.env.scope.names[k]? = some (x, NameKind.local) → σ[k]? = some v → v ≠ .unb → ∃ val, m x = some val ∧ RepVar D ow s1.heap k v val := by
      intro k x v e1 e2 e3
      obtain ⟨val, p1, p2⟩ := hmv1 k x v e1 e2 e3
      have e : m = m1 := by
        obtain ⟨o, es, ep, ho, hd, _, hf⟩ := hmn1
        obtain ⟨o', es', ep', ho', hd', _, hf'⟩ := hmn
        rw [K2.strict _ _ ho] at ho'
        cases ho'
        rw [hd] at hd'; cases hd'
        funext z; rw [← hf z, ← hf' z]
      exact ⟨val, by rw [e]; exact p1, p2⟩
    have es : s₂ = { s1 with heap := s₂.heap, toks := s₂.toks } := by
      obtain ⟨h2, tk2, rfl, _⟩ := K2; rfl
    have Rf : Rel G D ow (σ.set k (.list ((((List.range N).map vs).filter q).map f))) { s1 with heap := h', toks := tk } :=
      R1.stored O hm1 hk hl hn' keep1 (Nat.le_trans R.toks htk) ⟨D', ys.toList, rfl, not_bad_of_none O R1 dead1, by simpa using hpl, hre⟩
    have KXf : KX G t D ow s1 { s1 with heap := h', toks := tk } := ⟨h', tk, rfl, fun b o off e => keep1 b o off.1 e⟩
    rw [es]
    exact ⟨.next, _, ow, trivial, Rf, ((KX.of_kt K1).weak).trans KXf (OwG.refl _ _), OwG.refl _ _, h⟩
end
section
open PySem.Builtin PySem.Builtin.Str

section
variable {G : Gl} {n : Nat} {t : Bool}

theorem cv_end {mu : Addr → Prop} {s s' : Shared} {r : V} {val : Value} (ar : Around0 G mu s) (h : Rep mu s'.heap r val) (K : Kt G false s s') : Rep mu s'.heap r val ∧ Kt G t s s' ∧ G.TabOk mu s'.heap := ⟨h, K.weak, Gl.tabKt ar.tab K.strict⟩
theorem not_mu {mu : Addr → Prop} {s : Shared} (ar : Around0 G mu s) {a : Addr} (h : s.heap.get? a = none) : ¬ mu a := fun q => by obtain ⟨o, e⟩ := ar.live a q; rw [h] at e; cases e
theorem args1 {mu : Addr → Prop} {h : Heap} {a : V} {vals : List Value} (r : RepAll mu h [a] vals) : ∃ v, vals = [v] ∧ Rep mu h a v := by
  obtain ⟨v, rfl⟩ := len1 r.length
  exact ⟨v, rfl, r.1⟩
theorem args2 {mu : Addr → Prop} {h : Heap} {a b : V} {vals : List Value} (r : RepAll mu h [a, b] vals) : ∃ v w, vals = [v, w] ∧ Rep mu h a v ∧ Rep mu h b w := by
  obtain ⟨v, w, rfl⟩ := len2 r.length
  exact ⟨v, w, rfl, r.1, r.2.1⟩
theorem args3 {mu : Addr → Prop} {h : Heap} {a b c : V} {vals : List Value} (r : RepAll mu h [a, b, c] vals) : ∃ v w u, vals = [v, w, u] ∧ Rep mu h a v ∧ Rep mu h b w ∧ Rep mu h c u := by
  obtain ⟨v, w, u, rfl⟩ := len3 r.length
  exact ⟨v, w, u, rfl, r.1, r.2.1, r.2.2.1⟩

theorem c_len_loan {l : List V} (hz : l.length ≤ 16777216) : CallV G n t (.builtin "len") [.loan l] (.int l.length) := fun A mu s vals E rm ar rv => by
  obtain ⟨v, rfl, a, items, rfl, p, q⟩ := args1 rv
  have e := q.length
  refine call_len_list p (by rw [List.size_toArray, e]; omega) ?_
  rw [List.size_toArray, e]
  exact cv_end ar ⟨_, rfl⟩ (Kt.tok _)
theorem c_len_str {x : Str} (hz : x.length ≤ 16777216) : CallV G n t (.builtin "len") [.str x] (.int x.length) := fun A mu s vals E rm ar rv => by
  obtain ⟨v, rfl, u, rfl⟩ := args1 rv
  exact PyProof.Rows.len_str (by omega) (cv_end ar ⟨_, rfl⟩ (Kt.tok _))
theorem c_range1 {a : Int} : CallV G n t (.type "range") [.int a] (.range 0 a 1) := fun A mu s vals E rm ar rv => by
  obtain ⟨v, rfl, u, rfl⟩ := args1 rv
  refine call_range_1 (cv_end ar ⟨_, _, _, _, rfl, not_mu ar (fresh_none _), Heap.get?_push_size _ rfl⟩ (Kt.push _ _))
theorem c_range2 {a b : Int} : CallV G n t (.type "range") [.int a, .int b] (.range a b 1) := fun A mu s vals E rm ar rv => by
  obtain ⟨v, w, rfl, ⟨u, rfl⟩, u', rfl⟩ := args2 rv
  refine call_range_2 (cv_end ar ⟨_, _, _, _, rfl, not_mu ar (fresh_none _), Heap.get?_push_size _ rfl⟩ (Kt.push _ _))
theorem c_range3 {a b c : Int} (hc : c ≠ 0) (hp : Builtin.divisionGoesByPylong (b - a) c = false) : CallV G n t (.type "range") [.int a, .int b, .int c] (.range a b c) := fun A mu s vals E rm ar rv => by
  obtain ⟨v, w, z, rfl, ⟨u, rfl⟩, ⟨u', rfl⟩, u'', rfl⟩ := args3 rv
  refine call_range_3 hc (cv_end ar ⟨_, _, _, _, rfl, not_mu ar (fresh_none _), Heap.get?_push_size _ rfl⟩ (Kt.push _ _)) (.inl hp)
theorem c_isi_str {x : Str} : CallV G n t (.builtin "isinstance") [.str x, .raw (.type "str")] (.bool true) := fun A mu s vals E rm ar rv => by
  obtain ⟨v, w, rfl, ⟨u, rfl⟩, r⟩ := args2 rv
  cases (show w = _ from r)
  exact PySem.IsiPair.str_str (cv_end ar rfl (Kt.refl ..))
theorem c_isi_bytes {x : Str} : CallV G n t (.builtin "isinstance") [.str x, .raw (.type "bytes")] (.bool false) := fun A mu s vals E rm ar rv => by
  obtain ⟨v, w, rfl, ⟨u, rfl⟩, r⟩ := args2 rv
  cases (show w = _ from r)
  exact PySem.IsiPair.str_bytes (cv_end ar rfl (Kt.tok _))

/-! methods of str -/
theorem c_startswith {x y : Str} : CallV G n t (.builtin "str.startswith") [.str x, .str y] (.bool (Txt.startswith x y)) := fun A mu s vals E rm ar rv => by
  obtain ⟨v, w, rfl, ⟨u, rfl⟩, u', rfl⟩ := args2 rv
  exact SC.startswith (cv_end ar rfl (Kt.refl ..))
theorem c_endswith {x y : Str} : CallV G n t (.builtin "str.endswith") [.str x, .str y] (.bool (Txt.endswith x y)) := fun A mu s vals E rm ar rv => by
  obtain ⟨v, w, rfl, ⟨u, rfl⟩, u', rfl⟩ := args2 rv
  exact SC.endswith (cv_end ar rfl (Kt.refl ..))
theorem c_rfind {x y : Str} : CallV G n t (.builtin "str.rfind") [.str x, .str y] (.int (Txt.rfind x y)) := fun A mu s vals E rm ar rv => by
  obtain ⟨v, w, rfl, ⟨u, rfl⟩, u', rfl⟩ := args2 rv
  exact SC.rfind (cv_end ar ⟨_, rfl⟩ (Kt.tok _))
theorem c_find3 {x y : Str} {i : Int} : CallV G n t (.builtin "str.find") [.str x, .str y, .int i] (.int (Txt.find3 x y i)) := fun A mu s vals E rm ar rv => by
  obtain ⟨v, w, z, rfl, ⟨u, rfl⟩, ⟨u', rfl⟩, u'', rfl⟩ := args3 rv
  exact SC.find3 (cv_end ar ⟨_, rfl⟩ (Kt.tok _))
noncomputable def rfind3 (x y : Str) (i : Int) : Int := match lastOccurrence x y (fromIndex x.length i) x.length with | some k => (k : Int) | none => -1
theorem gives_rfind3 (x y : Str) (i : Int) (t u v : Tok) : Gives («str.rfind» ⟨[.str x t, .str y u, .int i v], []⟩) (.int (rfind3 x y i)) := by
  show Gives (match lastOccurrence x y (fromIndex x.length i) (min x.length x.length) with | some i => retInt i | none => (do rule "str.rfind.not-found"; retInt (-1))) _
  rw [Nat.min_self]
  unfold rfind3
  cases lastOccurrence x y (fromIndex x.length i) x.length with
  | none => exact .rule (.of_eq rfl)
  | some i => exact .of_eq rfl
theorem c_rfind3 {x y : Str} {i : Int} : CallV G n t (.builtin "str.rfind") [.str x, .str y, .int i] (.int (rfind3 x y i)) := fun A mu s vals E rm ar rv => by
  obtain ⟨v, w, z, rfl, ⟨u, rfl⟩, ⟨u', rfl⟩, u'', rfl⟩ := args3 rv
  exact call_gives PySem.F.slot_str_rfind (typeIs_str _ _ _) PySem.F.entry_str_rfind (PySem.F.args_str_rfind_3 _ _ _) (gives_rfind3 x y i u u' u'') (cv_end ar ⟨_, rfl⟩ (Kt.tok _))
theorem c_rstrip {x y : Str} (hz : x.length ≤ 16777216) : CallV G n t (.builtin "str.rstrip") [.str x, .str y] (.str (Txt.rstripChars x y)) := fun A mu s vals E rm ar rv => by
  obtain ⟨v, w, rfl, ⟨u, rfl⟩, u', rfl⟩ := args2 rv
  exact SC.rstripChars (fun t' k => cv_end ar ⟨_, rfl⟩ (Kt.tok _)) (by rw [sizeLine_eq]; exact hz)
theorem reps_strs : ∀ {ys : List Str} {vs : List Value}, Reps (ys.map .str) vs → StrsAre vs ys
  | [], [], _ => .nil
  | [], _ :: _, h => h.elim
  | _ :: _, [], h => h.elim
  | y :: ys, v :: vs, h => by
    obtain ⟨⟨u, rfl⟩, h2⟩ := h
    exact .cons y u (reps_strs h2)
theorem c_join {x : Str} {ys : List Str} (hz : (ys.map (·.length)).sum + ys.length * x.length ≤ 16777216) : CallV G n t (.builtin "str.join") [.str x, .loan (ys.map .str)] (.str (Txt.join x ys)) := fun A mu s vals E rm ar rv => by
  obtain ⟨v, w, rfl, ⟨u, rfl⟩, a, items, rfl, p, q⟩ := args2 rv
  exact join_list p (by simpa using reps_strs q) hz fun t' k => cv_end ar ⟨_, rfl⟩ (Kt.tok _)
theorem reps_of_strs (tk : Nat) : ∀ (l : List (Str × Tok)), Reps ((l.map (·.1)).map .str) (strValues l)
  | [] => trivial
  | p :: r => ⟨⟨_, rfl⟩, reps_of_strs tk r⟩
theorem c_split {x y : Str} (hy : (y.length == 0) = false) (hz : x.length ≤ 1000000) : CallV G n t (.builtin "str.split") [.str x, .str y] (.list ((Txt.split x y).map .str)) := fun A mu s vals E rm ar rv => by
  obtain ⟨v, w, rfl, ⟨u, rfl⟩, u', rfl⟩ := args2 rv
  have fin : ∀ (l : List (Str × Tok)) (k : Nat), l.map (·.1) = Txt.split x y → Rep mu (s.heap.push { cls := .type "list", data := .seq (strValues l).toArray }) (.list ((Txt.split x y).map .str)) (.ref s.heap.objs.size) ∧
      Kt G t s { s with heap := s.heap.push { cls := .type "list", data := .seq (strValues l).toArray }, toks := k } ∧ G.TabOk mu (s.heap.push { cls := .type "list", data := .seq (strValues l).toArray }) := by
    intro l k e
    refine cv_end (s' := { s with heap := s.heap.push { cls := .type "list", data := .seq (strValues l).toArray }, toks := k }) ar ⟨_, strValues l, rfl, not_mu ar (fresh_none _), ⟨0, Heap.get?_push_size _ rfl⟩, ?_⟩ (Kt.push _ _)
    rw [← e]; exact reps_of_strs 0 l
  cases h1 : (decide (x.length < y.length) || decide (strKind x < strKind y))
  · cases hf : (occurrences x y 0 x.length (x.length + 1)).isEmpty
    · refine call_meets PySem.F.slot_str_split (typeIs_str _ _ _) PySem.F.entry_str_split (PySem.F.args_str_split_2 _ _) (meets_str_split_sep x y u u' h1 hy hf (by rw [sizeLine_eq]; omega) (by
        rw [sizeLine_eq, length_partsBetween]; have := StrLaws.occ_length_le x y 0 x.length (x.length + 1); omega)) ?_
      show wants _ E _ { s with toks := _, heap := s.heap.push { cls := .type "list", data := .seq (strsFrom s.toks (partsBetween x (occurrences x y 0 x.length (x.length + 1)) y.length)).toArray } }
      rw [strsFrom_eq]
      exact fin (numbered s.toks _) _ ((numbered_texts _ _).trans ((if_neg (ne_true_of_eq_false h1)).trans (if_neg (ne_true_of_eq_false hf))).symm)
    · exact call_meets PySem.F.slot_str_split (typeIs_str _ _ _) PySem.F.entry_str_split (PySem.F.args_str_split_2 _ _) (meets_str_split_not_found x y u u' h1 hy hf) (fin [(x, u)] _ ((if_neg (ne_true_of_eq_false h1)).trans (if_pos hf)).symm)
  · exact call_meets PySem.F.slot_str_split (typeIs_str _ _ _) PySem.F.entry_str_split (PySem.F.args_str_split_2 _ _) (meets_str_split_cannot_occur x y u u' h1) (fin [(x, u)] _ (if_pos h1).symm)
end
end
theorem all_eq {α : Type} [BEq α] [LawfulBEq α] [DecidableEq α] {xs ys : List α} (h : xs.length = ys.length) : ((List.range xs.length).all fun j => xs[j]? == ys[j]?) = decide (xs = ys) := by
  rw [Bool.eq_iff_iff, List.all_eq_true, decide_eq_true_iff]
  constructor
  · intro q
    refine List.ext_getElem? fun j => ?_
    by_cases hj : j < xs.length
    · exact eq_of_beq (q j (List.mem_range.mpr hj))
    · rw [List.getElem?_eq_none (by omega), List.getElem?_eq_none (by omega)]
  · rintro rfl j _
    exact beq_self_eq_true _
theorem reps_str_at {xs : List Str} {vs : List Value} (h : Reps (xs.map .str) vs) {j : Nat} (hj : j < vs.length) : ∃ x t, xs[j]? = some x ∧ vs[j] = .str x t := by
  obtain ⟨w, e1, e2⟩ := h.getV (List.getElem?_eq_getElem hj)
  rw [List.getElem?_map] at e1
  cases e3 : xs[j]? with
  | none => rw [e3] at e1; cases e1
  | some z =>
    rw [e3] at e1; cases e1
    obtain ⟨t3, e⟩ := e2
    exact ⟨z, t3, rfl, e⟩
theorem reps_int_at {xs : List Int} {vs : List Value} (h : Reps (xs.map .int) vs) {j : Nat} (hj : j < vs.length) : ∃ x t, xs[j]? = some x ∧ vs[j] = .int x t := by
  obtain ⟨w, e1, e2⟩ := h.getV (List.getElem?_eq_getElem hj)
  rw [List.getElem?_map] at e1
  cases e3 : xs[j]? with
  | none => rw [e3] at e1; cases e1
  | some z =>
    rw [e3] at e1; cases e1
    obtain ⟨t3, e⟩ := e2
    exact ⟨z, t3, rfl, e⟩
theorem reps_ints : ∀ {ys : List Int} {vs : List Value}, Reps (ys.map .int) vs → IntsAre vs ys
  | [], [], _ => .nil
  | [], _ :: _, h => h.elim
  | _ :: _, [], h => h.elim
  | y :: ys, v :: vs, h => by
    obtain ⟨t, e⟩ := h.1
    subst e
    exact .cons y t (reps_ints h.2)

section
variable {G : Gl} {n : Nat} {F : Scope} {t : Bool} {σ : List V} {pos : Pos} {l r : Expr}

theorem sp_one {e : Expr} {v : V} (hs : ∀ env, starEach [e] env = (false, eval e env) :: starEach [] env) (h : EP G n F t e σ v) : SP G n F t pos [e] σ [v] := fun D ow s E O R => by
  rw [hs]
  show wpAny _ _ (spliced ((false, eval e D.env) :: backTo pos (starEach [] D.env))) _ _ _
  exact spliced_cons (h.go O R fun a s1 ra K1 R1 => spliced_nil ⟨⟨ra, trivial⟩, K1, R1.tab⟩)

theorem room_units {A : Around} (h : Room n A) : A.units + 64 < cLine := by
  have := h.2.1
  simp only [cLine]; omega

theorem e_eq_strs {xs ys : List Str} (hl : EP G n F false l σ (.loan (xs.map .str))) (hr : EP G n F false r σ (.loan (ys.map .str))) (hm : behindInMarks .Eq r = false) : EP G n F t (.Compare l [.Eq] [r] pos) σ (.bool (decide (xs = ys))) := EP.weak fun D ow s E O R => by
  refine wpAny_Compare1 (hl.go O R fun a s1 ra K1 R1 => hr.go O R1 fun b s2 rb K2 R2 => ?_) hm
  obtain ⟨q, items, rfl, p, q1⟩ := ra; obtain ⟨q', items', rfl, p', q2⟩ := rb
  have e1 : items.length = xs.length := by rw [q1.length, List.length_map]
  have e2 : items'.length = ys.length := by rw [q2.length, List.length_map]
  have he : ∀ j (h1 : j < items.toArray.size) (h2 : j < items'.toArray.size), SeqAt.EqAt D.A.in1 s2 items.toArray[j] items'.toArray[j] (xs[j]? == ys[j]?) := by
    intro j h1 h2
    obtain ⟨x, t1, a1, a2⟩ := reps_str_at q1 (by simpa using h1 : j < items.length)
    obtain ⟨y, t2, b1, b2⟩ := reps_str_at q2 (by simpa using h2 : j < items'.length)
    rw [List.getElem_toArray, List.getElem_toArray, a2, b2, a1, b1]
    have e : (some x == some y) = (x == y) := rfl
    rw [e]
    exact SeqAt.EqAt.str_str x t1 y t2
  by_cases hl' : xs.length = ys.length
  · refine SeqAt.eq_listAt (e := fun j => xs[j]? == ys[j]?) (IsList.mono p fun o e => K2.strict _ o e) p' (by simp [e1, e2, hl']) (by have := room_units O.room; omega) he ?_
    rw [List.size_toArray, e1, all_eq hl']
    exact ep_end2 (K1.trans K2) R2 rfl (Kt.refl ..)
  · refine SeqAt.eq_list_lengthsAt (IsList.mono p fun o e => K2.strict _ o e) p' (by simp [e1, e2, hl']) (by have := room_units O.room; omega) ?_
    have q : decide (xs = ys) = false := decide_eq_false fun h => hl' (by rw [h])
    rw [q]
    exact ep_end2 (K1.trans K2) R2 rfl (Kt.refl ..)
theorem e_ne_strs {xs ys : List Str} (hl : EP G n F false l σ (.loan (xs.map .str))) (hr : EP G n F false r σ (.loan (ys.map .str))) (hm : behindInMarks .NotEq r = false) : EP G n F t (.Compare l [.NotEq] [r] pos) σ (.bool (!decide (xs = ys))) := EP.weak fun D ow s E O R => by
  refine wpAny_Compare1 (hl.go O R fun a s1 ra K1 R1 => hr.go O R1 fun b s2 rb K2 R2 => ?_) hm
  obtain ⟨q, items, rfl, p, q1⟩ := ra; obtain ⟨q', items', rfl, p', q2⟩ := rb
  have e1 : items.length = xs.length := by rw [q1.length, List.length_map]
  have e2 : items'.length = ys.length := by rw [q2.length, List.length_map]
  have he : ∀ j (h1 : j < items.toArray.size) (h2 : j < items'.toArray.size), SeqAt.EqAt D.A.in1 s2 items.toArray[j] items'.toArray[j] (xs[j]? == ys[j]?) := by
    intro j h1 h2
    obtain ⟨x, t1, a1, a2⟩ := reps_str_at q1 (by simpa using h1 : j < items.length)
    obtain ⟨y, t2, b1, b2⟩ := reps_str_at q2 (by simpa using h2 : j < items'.length)
    rw [List.getElem_toArray, List.getElem_toArray, a2, b2, a1, b1]
    have e : (some x == some y) = (x == y) := rfl
    rw [e]
    exact SeqAt.EqAt.str_str x t1 y t2
  by_cases hl' : xs.length = ys.length
  · have z := SeqAt.RcNeAt.lists (A := D.A) (s := s2) (e := fun j => xs[j]? == ys[j]?) (IsList.mono p fun o e => K2.strict _ o e) p' (by simp [e1, e2, hl']) (by have := room_units O.room; omega) he
    rw [List.size_toArray, e1, all_eq hl'] at z
    exact z _ _ _ _ (ep_end2 (K1.trans K2) R2 rfl (Kt.refl ..))
  · have z := SeqAt.RcNeAt.lists_lengths (A := D.A) (s := s2) (IsList.mono p fun o e => K2.strict _ o e) p' (by simp [e1, e2, hl']) (by have := room_units O.room; omega)
    have q : decide (xs = ys) = false := decide_eq_false fun h => hl' (by rw [h])
    rw [q]
    exact z _ _ _ _ (ep_end2 (K1.trans K2) R2 rfl (Kt.refl ..))
theorem e_ne_ints {xs ys : List Int} (hl : EP G n F false l σ (.loan (xs.map .int))) (hr : EP G n F false r σ (.loan (ys.map .int))) (hm : behindInMarks .NotEq r = false) : EP G n F t (.Compare l [.NotEq] [r] pos) σ (.bool (!decide (xs = ys))) := EP.weak fun D ow s E O R => by
  refine wpAny_Compare1 (hl.go O R fun a s1 ra K1 R1 => hr.go O R1 fun b s2 rb K2 R2 => ?_) hm
  obtain ⟨q, items, rfl, p, q1⟩ := ra; obtain ⟨q', items', rfl, p', q2⟩ := rb
  have e1 : items.length = xs.length := by rw [q1.length, List.length_map]
  have e2 : items'.length = ys.length := by rw [q2.length, List.length_map]
  have he : ∀ j (h1 : j < items.toArray.size) (h2 : j < items'.toArray.size), SeqAt.EqAt D.A.in1 s2 items.toArray[j] items'.toArray[j] (xs[j]? == ys[j]?) := by
    intro j h1 h2
    obtain ⟨x, t1, a1, a2⟩ := reps_int_at q1 (by simpa using h1 : j < items.length)
    obtain ⟨y, t2, b1, b2⟩ := reps_int_at q2 (by simpa using h2 : j < items'.length)
    rw [List.getElem_toArray, List.getElem_toArray, a2, b2, a1, b1]
    have e : (some x == some y) = (x == y) := rfl
    rw [e]
    exact SeqAt.EqAt.int_int x t1 y t2
  by_cases hl' : xs.length = ys.length
  · have z := SeqAt.RcNeAt.lists (A := D.A) (s := s2) (e := fun j => xs[j]? == ys[j]?) (IsList.mono p fun o e => K2.strict _ o e) p' (by simp [e1, e2, hl']) (by have := room_units O.room; omega) he
    rw [List.size_toArray, e1, all_eq hl'] at z
    exact z _ _ _ _ (ep_end2 (K1.trans K2) R2 rfl (Kt.refl ..))
  · have z := SeqAt.RcNeAt.lists_lengths (A := D.A) (s := s2) (IsList.mono p fun o e => K2.strict _ o e) p' (by simp [e1, e2, hl']) (by have := room_units O.room; omega)
    have q : decide (xs = ys) = false := decide_eq_false fun h => hl' (by rw [h])
    rw [q]
    exact z _ _ _ _ (ep_end2 (K1.trans K2) R2 rfl (Kt.refl ..))
/-- in a tuple -/
theorem e_in_ints {x : Int} {ys : List Int} (hl : EP G n F t l σ (.int x)) (hr : EP G n F t r σ (.tuple (ys.map .int))) (hm : behindInMarks .In r = false) : EP G n F t (.Compare l [.In] [r] pos) σ (.bool (ys.contains x)) := fun D ow s E O R => by
  refine wpAny_Compare1 (hl.go O R fun a s1 ra K1 R1 => hr.go O R1 fun b s2 rb K2 R2 => ?_) hm
  obtain ⟨t1, rfl⟩ := ra
  obtain ⟨q', items, rfl, nb, p', q2⟩ := rb
  refine SeqAt.in_tupleAt (items := items.toArray) (fun v => match v with | .int y _ => y == x | _ => false) p' (fun y hy => ?_) ?_
  · obtain ⟨i, hi⟩ := List.getElem?_of_mem (by simpa using hy : y ∈ items)
    obtain ⟨w, e1, e2⟩ := q2.getV hi
    rw [List.getElem?_map] at e1
    cases e3 : ys[i]? with
    | none => rw [e3] at e1; cases e1
    | some z =>
      rw [e3] at e1; cases e1
      obtain ⟨t3, rfl⟩ := e2
      exact (MeetsSeq.EqGives.int z x t3 t1).at _ _
  · have e : (items.toArray.any fun v => match v with | .int y _ => y == x | _ => false) = ys.contains x := by
      rw [List.any_toArray]
      have q3 := reps_ints q2
      clear q2 p' hr
      induction q3 with
      | nil => rfl
      | cons k t r ih => rw [List.any_cons, List.contains_cons, ih]; congr 1; exact Bool.eq_iff_iff.mpr (by rw [beq_iff_eq, beq_iff_eq]; exact eq_comm)
    rw [e]
    exact ep_end2 (K1.trans K2) R2 rfl (Kt.refl ..)
theorem e_in_strs {x : Str} {ys : List Str} (hl : EP G n F t l σ (.str x)) (hr : EP G n F t r σ (.tuple (ys.map .str))) (hm : behindInMarks .In r = false) : EP G n F t (.Compare l [.In] [r] pos) σ (.bool (ys.contains x)) := fun D ow s E O R => by
  refine wpAny_Compare1 (hl.go O R fun a s1 ra K1 R1 => hr.go O R1 fun b s2 rb K2 R2 => ?_) hm
  obtain ⟨t1, rfl⟩ := ra
  obtain ⟨q', items, rfl, nb, p', q2⟩ := rb
  refine SeqAt.in_tupleAt (items := items.toArray) (fun v => match v with | .str y _ => y == x | _ => false) p' (fun y hy => ?_) ?_
  · obtain ⟨i, hi⟩ := List.getElem?_of_mem (by simpa using hy : y ∈ items)
    obtain ⟨w, e1, e2⟩ := q2.getV hi
    rw [List.getElem?_map] at e1
    cases e3 : ys[i]? with
    | none => rw [e3] at e1; cases e1
    | some z =>
      rw [e3] at e1; cases e1
      obtain ⟨t3, rfl⟩ := e2
      exact SeqAt.EqAt.str_str z t3 x t1
  · have e : (items.toArray.any fun v => match v with | .str y _ => y == x | _ => false) = ys.contains x := by
      rw [List.any_toArray]
      have q3 := reps_strs q2
      clear q2 p' hr
      induction q3 with
      | nil => rfl
      | cons k t r ih => rw [List.any_cons, List.contains_cons, ih]; congr 1; exact Bool.eq_iff_iff.mpr (by rw [beq_iff_eq, beq_iff_eq]; exact eq_comm)
    rw [e]
    exact ep_end2 (K1.trans K2) R2 rfl (Kt.refl ..)

/-- is, is not: an object against itself or against a text -/
theorem e_isnot_self {a : Addr} (hl : EP G n F t l σ (.raw (.ref a))) (hr : EP G n F t r σ (.raw (.ref a))) (hm : behindInMarks .IsNot r = false) : EP G n F t (.Compare l [.IsNot] [r] pos) σ (.bool false) := fun D ow s E O R => by
  refine wpAny_Compare1 (hl.go O R fun u s1 ra K1 R1 => hr.go O R1 fun b s2 rb K2 R2 => ?_) hm
  have e1 : u = .ref a := ra
  have e2 : b = .ref a := rb
  subst e1 e2
  exact wpAny_isNot_ref_self (ep_end2 (K1.trans K2) R2 rfl (Kt.refl ..))
theorem e_is_self {a : Addr} (hl : EP G n F t l σ (.raw (.ref a))) (hr : EP G n F t r σ (.raw (.ref a))) (hm : behindInMarks .Is r = false) : EP G n F t (.Compare l [.Is] [r] pos) σ (.bool true) := fun D ow s E O R => by
  refine wpAny_Compare1 (hl.go O R fun u s1 ra K1 R1 => hr.go O R1 fun b s2 rb K2 R2 => ?_) hm
  have e1 : u = .ref a := ra
  have e2 : b = .ref a := rb
  subst e1 e2
  exact wpAny_is_ref_self (ep_end2 (K1.trans K2) R2 rfl (Kt.refl ..))
theorem e_isnot_str {x : Str} {a : Addr} (hl : EP G n F t l σ (.str x)) (hr : EP G n F t r σ (.raw (.ref a))) (hm : behindInMarks .IsNot r = false) : EP G n F t (.Compare l [.IsNot] [r] pos) σ (.bool true) := fun D ow s E O R => by
  refine wpAny_Compare1 (hl.go O R fun u s1 ra K1 R1 => hr.go O R1 fun b s2 rb K2 R2 => ?_) hm
  obtain ⟨t1, rfl⟩ := ra
  have e2 : b = .ref a := rb
  subst e2
  exact wpAny_isNot_other rfl (by intro h; cases h) (ep_end2 (K1.trans K2) R2 rfl (Kt.refl ..))

theorem e_mul_str {x : Str} {k : Int} (hl : EP G n F t l σ (.str x)) (hr : EP G n F t r σ (.int k)) (hok : MulOk x k) : EP G n F t (.BinOp l .Mult r pos) σ (.str (Txt.mul x k)) := fun D ow s E O R => by
  refine wpAny_BinOp (hl.go O R fun a s1 ra K1 R1 => hr.go O R1 fun b s2 rb K2 R2 => ?_)
  obtain ⟨t1, rfl⟩ := ra; obtain ⟨t2, rfl⟩ := rb
  exact SB.mul hok fun t' k => ep_end2 (K1.trans K2) R2 ⟨_, rfl⟩ (Kt.tok _)

/-- one rule for operators: the values choose -/
inductive BinV : Operator → V → V → V → Prop
  | addi (a b : Int) : BinV .Add (.int a) (.int b) (.int (a + b))
  | adds {x y : Str} (hz : x.length + y.length ≤ 16777216) : BinV .Add (.str x) (.str y) (.str (x ++ y))
  | addl {xs ys : List V} (hz : xs.length + ys.length ≤ 16777216) : BinV .Add (.list xs) (.list ys) (.list (xs ++ ys))
  | subi (a b : Int) : BinV .Sub (.int a) (.int b) (.int (a - b))
  | modi {a b : Int} (hb : b ≠ 0) : BinV .Mod (.int a) (.int b) (.int (a.fmod b))
  | divi {a b : Int} (hb : b ≠ 0) (hp : Builtin.divisionGoesByPylong a b = false) : BinV .FloorDiv (.int a) (.int b) (.int (a.fdiv b))
  | muls {x : Str} {k : Int} (hok : MulOk x k) : BinV .Mult (.str x) (.int k) (.str (Txt.mul x k))
theorem e_bin {op : Operator} {v w u : V} (hl : EP G n F t l σ v) (hr : EP G n F t r σ w) (h : BinV op v w u) : EP G n F t (.BinOp l op r pos) σ u := by
  cases h with
  | addi => exact e_add hl hr
  | adds hz => exact e_add_str hl hr hz
  | addl hz => exact (f_add_list hl hr hz).ep
  | subi => exact e_sub hl hr
  | modi hb => exact e_mod hl hr hb
  | divi hb hp => exact e_floordiv hl hr hb hp
  | muls hok => exact e_mul_str hl hr hok
inductive CmpV : CmpOp → V → V → Bool → Prop
  | eqi (a b : Int) : CmpV .Eq (.int a) (.int b) (a == b)
  | nei (a b : Int) : CmpV .NotEq (.int a) (.int b) (a != b)
  | lti (a b : Int) : CmpV .Lt (.int a) (.int b) (decide (a < b))
  | lei (a b : Int) : CmpV .LtE (.int a) (.int b) (decide (a ≤ b))
  | gti (a b : Int) : CmpV .Gt (.int a) (.int b) (decide (b < a))
  | gei (a b : Int) : CmpV .GtE (.int a) (.int b) (decide (b ≤ a))
  | eqs (a b : Str) : CmpV .Eq (.str a) (.str b) (a == b)
  | nes (a b : Str) : CmpV .NotEq (.str a) (.str b) (a != b)
  | ins (a b : Str) : CmpV .In (.str a) (.str b) (Txt.contains b a)
  | notins (a b : Str) : CmpV .NotIn (.str a) (.str b) (!Txt.contains b a)
  | insame (x : Int) (ys : List Int) : CmpV .In (.int x) (.tuple (ys.map .int)) (ys.contains x)
  | instr (x : Str) (ys : List Str) : CmpV .In (.str x) (.tuple (ys.map .str)) (ys.contains x)
  | isnotself (a : Addr) : CmpV .IsNot (.raw (.ref a)) (.raw (.ref a)) false
  | isself (a : Addr) : CmpV .Is (.raw (.ref a)) (.raw (.ref a)) true
  | isnotstr (x : Str) (a : Addr) : CmpV .IsNot (.str x) (.raw (.ref a)) true
theorem e_cmp {op : CmpOp} {v w : V} {b : Bool} (hm : behindInMarks op r = false) (hl : EP G n F t l σ v) (hr : EP G n F t r σ w) (h : CmpV op v w b) : EP G n F t (.Compare l [op] [r] pos) σ (.bool b) := by
  cases h with
  | eqi => exact e_eq hl hr hm
  | nei => exact e_ne hl hr hm
  | lti => exact e_lt hl hr hm
  | lei => exact e_le hl hr hm
  | gti => exact e_gt hl hr hm
  | gei => exact e_ge hl hr hm
  | eqs => exact e_eq_str hl hr hm
  | nes => exact e_ne_str hl hr hm
  | ins => exact e_in_str hl hr hm
  | notins => exact e_notin_str hl hr hm
  | insame => exact e_in_ints hl hr hm
  | instr => exact e_in_strs hl hr hm
  | isnotself => exact e_isnot_self hl hr hm
  | isself => exact e_is_self hl hr hm
  | isnotstr => exact e_isnot_str hl hr hm
theorem t_cmpv {op : CmpOp} {v w : V} {b : Bool} (hm : behindInMarks op r = false) (hl : EP G n F t l σ v) (hr : EP G n F t r σ w) (h : CmpV op v w b) : ET G n F t (.Compare l [op] [r] pos) σ b := t_cmp (e_cmp hm hl hr h) hm
inductive TruV : V → Bool → Prop
  | s {x : Str} (hz : x.length ≤ 16777216) : TruV (.str x) (x.length != 0)
  | l {xs : List V} (hz : xs.length ≤ 16777216) : TruV (.list xs) (!xs.isEmpty)
  | o {xs : List V} (hz : xs.length ≤ 16777216) : TruV (.loan xs) (!xs.isEmpty)
  | b (b : Bool) : TruV (.bool b) b
theorem t_val {e : Expr} {v : V} {b : Bool} (he : IsVal e) (h : EP G n F t e σ v) (hv : TruV v b) : ET G n F t e σ b := by
  cases hv with
  | s hz => exact t_str h he hz
  | l hz => exact t_loan h.loan he hz
  | o hz => exact t_loan h he hz
  | b => exact t_boolv h he

/-- a global function with its contract -/
noncomputable def CallN (G : Gl) (n : Nat) (t : Bool) (name : Str) (args : List V) (r : V) : Prop :=
  ∃ f o fd, G.mg name = some (.ref f) ∧ G.g₀.get? f = some o ∧ o.data = .func fd ∧ CallV G n t (.ref f) args r
theorem e_gcall {x : Str} {np : Pos} {es : List Expr} {vs : List V} {r : V} (hk : F.names.lookup x = some .globalImplicit) (hd : (x == ("__debug__" : Str)) = false)
    (hx : ∀ as, eval (.Call (.Name x np) as [] pos) = fun env => (do callWith pos (← eval (.Name x np) env) [] (backTo pos (starEach as env)) (backToKw pos (keywordEach [] env))))
    (hns : NoStar es) (ha : SP G n F t pos es σ vs) (hc : CallN G n t x vs r) : EP G n F t (.Call (.Name x np) es [] pos) σ r := by
  obtain ⟨f, o, fd, h1, h2, h3, h4⟩ := hc
  exact e_call_f hx (e_global hk h1 hd) h2 h3 ha hns h4
theorem CallV.up {f : Value} {m : Nat} {args : List V} {r : V} (h : CallV G n t f args r) (hm : n ≤ m) : CallV G m t f args r := fun A mu s vals E rm ar rv => h A mu s vals E (room_le rm hm) ar rv
theorem CallN.up {x : Str} {m : Nat} {args : List V} {r : V} (h : CallN G n t x args r) (hm : n ≤ m) : CallN G m t x args r := by
  obtain ⟨f, o, fd, h1, h2, h3, h4⟩ := h
  exact ⟨f, o, fd, h1, h2, h3, h4.up hm⟩
theorem CallN.is {x : Str} {args : List V} {r r' : V} (h : CallN G n t x args r) (e : r = r') : CallN G n t x args r' := e ▸ h
end
noncomputable def stAt (i : Nat) : Stmt := (PySem.Challenge.pw_ik0128_01.main.body[i]?).getD (.Pass ⟨0,0,0,0⟩)
noncomputable def bdOf : Stmt → List Stmt
  | .FunctionDef _ _ b _ _ _ _ _ _ _ => b
  | _ => []
noncomputable def scOf : Stmt → Scope
  | .FunctionDef _ _ _ _ _ _ s _ _ _ => s
  | _ => ⟨.function, [], false, false, []⟩
noncomputable def paOf : Stmt → Arguments
  | .FunctionDef _ a _ _ _ _ _ _ _ _ => a
  | _ => default
noncomputable def sc4 : Scope := scOf (stAt 4)
noncomputable def bd4 : List Stmt := bdOf (stAt 4)
noncomputable def pa4 : Arguments := paOf (stAt 4)
theorem k4 : sc4.kind = .function ∧ sc4.isCoroutine = false ∧ sc4.isGenerator = false ∧ (sc4.names.map (·.1)).Nodup := by decide +kernel
theorem d_pattern : (("pattern" : Str) == ("__debug__" : Str)) = false := by decide +kernel
theorem d_isinstance : (("isinstance" : Str) == ("__debug__" : Str)) = false := by decide +kernel
theorem nn_isinstance : ("isinstance" : Str) ≠ ("__name__" : Str) := by decide +kernel
theorem d_str : (("str" : Str) == ("__debug__" : Str)) = false := by decide +kernel
theorem nn_str : ("str" : Str) ≠ ("__name__" : Str) := by decide +kernel
theorem d__special_chars_map : (("_special_chars_map" : Str) == ("__debug__" : Str)) = false := by decide +kernel
theorem i4_pattern : idx sc4 "pattern" = some (0, .local) := by decide +kernel
theorem g4_isinstance : sc4.names.lookup ("isinstance" : Str) = some .globalImplicit := by decide +kernel
theorem g4_str : sc4.names.lookup ("str" : Str) = some .globalImplicit := by decide +kernel
theorem g4__special_chars_map : sc4.names.lookup ("_special_chars_map" : Str) = some .globalImplicit := by decide +kernel
noncomputable def sc6 : Scope := scOf (stAt 6)
noncomputable def bd6 : List Stmt := bdOf (stAt 6)
noncomputable def pa6 : Arguments := paOf (stAt 6)
theorem k6 : sc6.kind = .function ∧ sc6.isCoroutine = false ∧ sc6.isGenerator = false ∧ (sc6.names.map (·.1)).Nodup := by decide +kernel
theorem d_path : (("path" : Str) == ("__debug__" : Str)) = false := by decide +kernel
theorem d_parts : (("parts" : Str) == ("__debug__" : Str)) = false := by decide +kernel
theorem d_i : (("i" : Str) == ("__debug__" : Str)) = false := by decide +kernel
theorem d_list : (("list" : Str) == ("__debug__" : Str)) = false := by decide +kernel
theorem nn_list : ("list" : Str) ≠ ("__name__" : Str) := by decide +kernel
theorem d_map : (("map" : Str) == ("__debug__" : Str)) = false := by decide +kernel
theorem nn_map : ("map" : Str) ≠ ("__name__" : Str) := by decide +kernel
theorem d_escape : (("escape" : Str) == ("__debug__" : Str)) = false := by decide +kernel
theorem d_range : (("range" : Str) == ("__debug__" : Str)) = false := by decide +kernel
theorem nn_range : ("range" : Str) ≠ ("__name__" : Str) := by decide +kernel
theorem d_len : (("len" : Str) == ("__debug__" : Str)) = false := by decide +kernel
theorem nn_len : ("len" : Str) ≠ ("__name__" : Str) := by decide +kernel
theorem i6_path : idx sc6 "path" = some (0, .local) := by decide +kernel
theorem i6_parts : idx sc6 "parts" = some (1, .local) := by decide +kernel
theorem i6_i : idx sc6 "i" = some (2, .local) := by decide +kernel
theorem g6_list : sc6.names.lookup ("list" : Str) = some .globalImplicit := by decide +kernel
theorem g6_map : sc6.names.lookup ("map" : Str) = some .globalImplicit := by decide +kernel
theorem g6_escape : sc6.names.lookup ("escape" : Str) = some .globalImplicit := by decide +kernel
theorem g6_range : sc6.names.lookup ("range" : Str) = some .globalImplicit := by decide +kernel
theorem g6_len : sc6.names.lookup ("len" : Str) = some .globalImplicit := by decide +kernel
noncomputable def sc9 : Scope := scOf (stAt 9)
noncomputable def bd9 : List Stmt := bdOf (stAt 9)
noncomputable def pa9 : Arguments := paOf (stAt 9)
theorem k9 : sc9.kind = .function ∧ sc9.isCoroutine = false ∧ sc9.isGenerator = false ∧ (sc9.names.map (·.1)).Nodup := by decide +kernel
theorem d_pat : (("pat" : Str) == ("__debug__" : Str)) = false := by decide +kernel
theorem d_STAR : (("STAR" : Str) == ("__debug__" : Str)) = false := by decide +kernel
theorem d_object : (("object" : Str) == ("__debug__" : Str)) = false := by decide +kernel
theorem nn_object : ("object" : Str) ≠ ("__name__" : Str) := by decide +kernel
theorem d__translate : (("_translate" : Str) == ("__debug__" : Str)) = false := by decide +kernel
theorem d__join_translated_parts : (("_join_translated_parts" : Str) == ("__debug__" : Str)) = false := by decide +kernel
theorem i9_pat : idx sc9 "pat" = some (0, .local) := by decide +kernel
theorem i9_STAR : idx sc9 "STAR" = some (1, .local) := by decide +kernel
theorem i9_parts : idx sc9 "parts" = some (2, .local) := by decide +kernel
theorem g9_object : sc9.names.lookup ("object" : Str) = some .globalImplicit := by decide +kernel
theorem g9__translate : sc9.names.lookup ("_translate" : Str) = some .globalImplicit := by decide +kernel
theorem g9__join_translated_parts : sc9.names.lookup ("_join_translated_parts" : Str) = some .globalImplicit := by decide +kernel
noncomputable def sc10 : Scope := scOf (stAt 10)
noncomputable def bd10 : List Stmt := bdOf (stAt 10)
noncomputable def pa10 : Arguments := paOf (stAt 10)
theorem k10 : sc10.kind = .function ∧ sc10.isCoroutine = false ∧ sc10.isGenerator = false ∧ (sc10.names.map (·.1)).Nodup := by decide +kernel
theorem d_QUESTION_MARK : (("QUESTION_MARK" : Str) == ("__debug__" : Str)) = false := by decide +kernel
theorem d_res : (("res" : Str) == ("__debug__" : Str)) = false := by decide +kernel
theorem d_add : (("add" : Str) == ("__debug__" : Str)) = false := by decide +kernel
theorem d_n : (("n" : Str) == ("__debug__" : Str)) = false := by decide +kernel
theorem d_c : (("c" : Str) == ("__debug__" : Str)) = false := by decide +kernel
theorem d_j : (("j" : Str) == ("__debug__" : Str)) = false := by decide +kernel
theorem d_stuff : (("stuff" : Str) == ("__debug__" : Str)) = false := by decide +kernel
theorem d_chunks : (("chunks" : Str) == ("__debug__" : Str)) = false := by decide +kernel
theorem d_k : (("k" : Str) == ("__debug__" : Str)) = false := by decide +kernel
theorem d_chunk : (("chunk" : Str) == ("__debug__" : Str)) = false := by decide +kernel
theorem d__twin_re_1 : (("_twin_re_1" : Str) == ("__debug__" : Str)) = false := by decide +kernel
theorem i10_pat : idx sc10 "pat" = some (0, .local) := by decide +kernel
theorem i10_STAR : idx sc10 "STAR" = some (1, .local) := by decide +kernel
theorem i10_QUESTION_MARK : idx sc10 "QUESTION_MARK" = some (2, .local) := by decide +kernel
theorem i10_res : idx sc10 "res" = some (3, .local) := by decide +kernel
theorem i10_add : idx sc10 "add" = some (4, .local) := by decide +kernel
theorem i10_i : idx sc10 "i" = some (5, .local) := by decide +kernel
theorem i10_n : idx sc10 "n" = some (6, .local) := by decide +kernel
theorem i10_c : idx sc10 "c" = some (7, .local) := by decide +kernel
theorem i10_j : idx sc10 "j" = some (8, .local) := by decide +kernel
theorem i10_stuff : idx sc10 "stuff" = some (9, .local) := by decide +kernel
theorem i10_chunks : idx sc10 "chunks" = some (10, .local) := by decide +kernel
theorem i10_k : idx sc10 "k" = some (11, .local) := by decide +kernel
theorem i10_chunk : idx sc10 "chunk" = some (12, .local) := by decide +kernel
theorem g10_len : sc10.names.lookup ("len" : Str) = some .globalImplicit := by decide +kernel
theorem g10_range : sc10.names.lookup ("range" : Str) = some .globalImplicit := by decide +kernel
theorem g10__twin_re_1 : sc10.names.lookup ("_twin_re_1" : Str) = some .globalImplicit := by decide +kernel
theorem g10_escape : sc10.names.lookup ("escape" : Str) = some .globalImplicit := by decide +kernel
noncomputable def sc11 : Scope := scOf (stAt 11)
noncomputable def bd11 : List Stmt := bdOf (stAt 11)
noncomputable def pa11 : Arguments := paOf (stAt 11)
theorem k11 : sc11.kind = .function ∧ sc11.isCoroutine = false ∧ sc11.isGenerator = false ∧ (sc11.names.map (·.1)).Nodup := by decide +kernel
theorem d_inp : (("inp" : Str) == ("__debug__" : Str)) = false := by decide +kernel
theorem d_fixed : (("fixed" : Str) == ("__debug__" : Str)) = false := by decide +kernel
theorem i11_inp : idx sc11 "inp" = some (0, .local) := by decide +kernel
theorem i11_STAR : idx sc11 "STAR" = some (1, .local) := by decide +kernel
theorem i11_res : idx sc11 "res" = some (2, .local) := by decide +kernel
theorem i11_add : idx sc11 "add" = some (3, .local) := by decide +kernel
theorem i11_i : idx sc11 "i" = some (4, .local) := by decide +kernel
theorem i11_n : idx sc11 "n" = some (5, .local) := by decide +kernel
theorem i11_fixed : idx sc11 "fixed" = some (6, .local) := by decide +kernel
theorem g11_len : sc11.names.lookup ("len" : Str) = some .globalImplicit := by decide +kernel
noncomputable def sc20 : Scope := scOf (stAt 20)
noncomputable def bd20 : List Stmt := bdOf (stAt 20)
noncomputable def pa20 : Arguments := paOf (stAt 20)
theorem k20 : sc20.kind = .function ∧ sc20.isCoroutine = false ∧ sc20.isGenerator = false ∧ (sc20.names.map (·.1)).Nodup := by decide +kernel
theorem d_kind : (("kind" : Str) == ("__debug__" : Str)) = false := by decide +kernel
theorem d_hook : (("hook" : Str) == ("__debug__" : Str)) = false := by decide +kernel
theorem d_given : (("given" : Str) == ("__debug__" : Str)) = false := by decide +kernel
theorem d_type : (("type" : Str) == ("__debug__" : Str)) = false := by decide +kernel
theorem nn_type : ("type" : Str) ≠ ("__name__" : Str) := by decide +kernel
theorem d_issubclass : (("issubclass" : Str) == ("__debug__" : Str)) = false := by decide +kernel
theorem nn_issubclass : ("issubclass" : Str) ≠ ("__name__" : Str) := by decide +kernel
theorem d_bytes : (("bytes" : Str) == ("__debug__" : Str)) = false := by decide +kernel
theorem nn_bytes : ("bytes" : Str) ≠ ("__name__" : Str) := by decide +kernel
theorem d__abc_plain_meta : (("_abc_plain_meta" : Str) == ("__debug__" : Str)) = false := by decide +kernel
theorem d_getattr : (("getattr" : Str) == ("__debug__" : Str)) = false := by decide +kernel
theorem d_TypeError : (("TypeError" : Str) == ("__debug__" : Str)) = false := by decide +kernel
theorem d__plain_name : (("_plain_name" : Str) == ("__debug__" : Str)) = false := by decide +kernel
theorem d__wall : (("_wall" : Str) == ("__debug__" : Str)) = false := by decide +kernel
theorem i20_path : idx sc20 "path" = some (0, .local) := by decide +kernel
theorem i20_kind : idx sc20 "kind" = some (1, .local) := by decide +kernel
theorem i20_hook : idx sc20 "hook" = some (2, .local) := by decide +kernel
theorem i20_given : idx sc20 "given" = some (3, .local) := by decide +kernel
theorem g20_type : sc20.names.lookup ("type" : Str) = some .globalImplicit := by decide +kernel
theorem g20_issubclass : sc20.names.lookup ("issubclass" : Str) = some .globalImplicit := by decide +kernel
theorem g20_str : sc20.names.lookup ("str" : Str) = some .globalImplicit := by decide +kernel
theorem g20_bytes : sc20.names.lookup ("bytes" : Str) = some .globalImplicit := by decide +kernel
theorem g20__abc_plain_meta : sc20.names.lookup ("_abc_plain_meta" : Str) = some .globalImplicit := by decide +kernel
theorem g20_getattr : sc20.names.lookup ("getattr" : Str) = some .globalImplicit := by decide +kernel
theorem g20_TypeError : sc20.names.lookup ("TypeError" : Str) = some .globalImplicit := by decide +kernel
theorem g20__plain_name : sc20.names.lookup ("_plain_name" : Str) = some .globalImplicit := by decide +kernel
theorem g20__wall : sc20.names.lookup ("_wall" : Str) = some .globalImplicit := by decide +kernel
theorem g20_len : sc20.names.lookup ("len" : Str) = some .globalImplicit := by decide +kernel
noncomputable def sc24 : Scope := scOf (stAt 24)
noncomputable def bd24 : List Stmt := bdOf (stAt 24)
noncomputable def pa24 : Arguments := paOf (stAt 24)
theorem k24 : sc24.kind = .function ∧ sc24.isCoroutine = false ∧ sc24.isGenerator = false ∧ (sc24.names.map (·.1)).Nodup := by decide +kernel
theorem i24_path : idx sc24 "path" = some (0, .local) := by decide +kernel
theorem g24_isinstance : sc24.names.lookup ("isinstance" : Str) = some .globalImplicit := by decide +kernel
theorem g24_bytes : sc24.names.lookup ("bytes" : Str) = some .globalImplicit := by decide +kernel
noncomputable def sc25 : Scope := scOf (stAt 25)
noncomputable def bd25 : List Stmt := bdOf (stAt 25)
noncomputable def pa25 : Arguments := paOf (stAt 25)
theorem k25 : sc25.kind = .function ∧ sc25.isCoroutine = false ∧ sc25.isGenerator = false ∧ (sc25.names.map (·.1)).Nodup := by decide +kernel
theorem d_a : (("a" : Str) == ("__debug__" : Str)) = false := by decide +kernel
theorem d_p : (("p" : Str) == ("__debug__" : Str)) = false := by decide +kernel
theorem d_sep : (("sep" : Str) == ("__debug__" : Str)) = false := by decide +kernel
theorem d_b : (("b" : Str) == ("__debug__" : Str)) = false := by decide +kernel
theorem d_fspath : (("fspath" : Str) == ("__debug__" : Str)) = false := by decide +kernel
theorem d__get_sep : (("_get_sep" : Str) == ("__debug__" : Str)) = false := by decide +kernel
theorem d_AttributeError : (("AttributeError" : Str) == ("__debug__" : Str)) = false := by decide +kernel
theorem d_BytesWarning : (("BytesWarning" : Str) == ("__debug__" : Str)) = false := by decide +kernel
theorem d__check_arg_types : (("_check_arg_types" : Str) == ("__debug__" : Str)) = false := by decide +kernel
theorem i25_a : idx sc25 "a" = some (0, .local) := by decide +kernel
theorem i25_p : idx sc25 "p" = some (1, .local) := by decide +kernel
theorem i25_sep : idx sc25 "sep" = some (2, .local) := by decide +kernel
theorem i25_path : idx sc25 "path" = some (3, .local) := by decide +kernel
theorem i25_b : idx sc25 "b" = some (4, .local) := by decide +kernel
theorem g25_fspath : sc25.names.lookup ("fspath" : Str) = some .globalImplicit := by decide +kernel
theorem g25__get_sep : sc25.names.lookup ("_get_sep" : Str) = some .globalImplicit := by decide +kernel
theorem g25_TypeError : sc25.names.lookup ("TypeError" : Str) = some .globalImplicit := by decide +kernel
theorem g25_AttributeError : sc25.names.lookup ("AttributeError" : Str) = some .globalImplicit := by decide +kernel
theorem g25_BytesWarning : sc25.names.lookup ("BytesWarning" : Str) = some .globalImplicit := by decide +kernel
theorem g25__check_arg_types : sc25.names.lookup ("_check_arg_types" : Str) = some .globalImplicit := by decide +kernel
noncomputable def sc26 : Scope := scOf (stAt 26)
noncomputable def bd26 : List Stmt := bdOf (stAt 26)
noncomputable def pa26 : Arguments := paOf (stAt 26)
theorem k26 : sc26.kind = .function ∧ sc26.isCoroutine = false ∧ sc26.isGenerator = false ∧ (sc26.names.map (·.1)).Nodup := by decide +kernel
theorem d_empty : (("empty" : Str) == ("__debug__" : Str)) = false := by decide +kernel
theorem i26_p : idx sc26 "p" = some (0, .local) := by decide +kernel
theorem i26_sep : idx sc26 "sep" = some (1, .local) := by decide +kernel
theorem i26_empty : idx sc26 "empty" = some (2, .local) := by decide +kernel
theorem g26_fspath : sc26.names.lookup ("fspath" : Str) = some .globalImplicit := by decide +kernel
theorem g26_isinstance : sc26.names.lookup ("isinstance" : Str) = some .globalImplicit := by decide +kernel
theorem g26_bytes : sc26.names.lookup ("bytes" : Str) = some .globalImplicit := by decide +kernel
noncomputable def sc27 : Scope := scOf (stAt 27)
noncomputable def bd27 : List Stmt := bdOf (stAt 27)
noncomputable def pa27 : Arguments := paOf (stAt 27)
theorem k27 : sc27.kind = .function ∧ sc27.isCoroutine = false ∧ sc27.isGenerator = false ∧ (sc27.names.map (·.1)).Nodup := by decide +kernel
theorem i27_p : idx sc27 "p" = some (0, .local) := by decide +kernel
theorem i27_sep : idx sc27 "sep" = some (1, .local) := by decide +kernel
theorem i27_i : idx sc27 "i" = some (2, .local) := by decide +kernel
theorem g27_fspath : sc27.names.lookup ("fspath" : Str) = some .globalImplicit := by decide +kernel
theorem g27__get_sep : sc27.names.lookup ("_get_sep" : Str) = some .globalImplicit := by decide +kernel
noncomputable def sc28 : Scope := scOf (stAt 28)
noncomputable def bd28 : List Stmt := bdOf (stAt 28)
noncomputable def pa28 : Arguments := paOf (stAt 28)
theorem k28 : sc28.kind = .function ∧ sc28.isCoroutine = false ∧ sc28.isGenerator = false ∧ (sc28.names.map (·.1)).Nodup := by decide +kernel
theorem d_head : (("head" : Str) == ("__debug__" : Str)) = false := by decide +kernel
theorem i28_p : idx sc28 "p" = some (0, .local) := by decide +kernel
theorem i28_sep : idx sc28 "sep" = some (1, .local) := by decide +kernel
theorem i28_i : idx sc28 "i" = some (2, .local) := by decide +kernel
theorem i28_head : idx sc28 "head" = some (3, .local) := by decide +kernel
theorem g28_fspath : sc28.names.lookup ("fspath" : Str) = some .globalImplicit := by decide +kernel
theorem g28__get_sep : sc28.names.lookup ("_get_sep" : Str) = some .globalImplicit := by decide +kernel
theorem g28_len : sc28.names.lookup ("len" : Str) = some .globalImplicit := by decide +kernel
noncomputable def sc29 : Scope := scOf (stAt 29)
noncomputable def bd29 : List Stmt := bdOf (stAt 29)
noncomputable def pa29 : Arguments := paOf (stAt 29)
theorem k29 : sc29.kind = .function ∧ sc29.isCoroutine = false ∧ sc29.isGenerator = false ∧ (sc29.names.map (·.1)).Nodup := by decide +kernel
theorem d_dot : (("dot" : Str) == ("__debug__" : Str)) = false := by decide +kernel
theorem d_dotdot : (("dotdot" : Str) == ("__debug__" : Str)) = false := by decide +kernel
theorem d__ : (("_" : Str) == ("__debug__" : Str)) = false := by decide +kernel
theorem d_initial_slashes : (("initial_slashes" : Str) == ("__debug__" : Str)) = false := by decide +kernel
theorem d_comps : (("comps" : Str) == ("__debug__" : Str)) = false := by decide +kernel
theorem d_new_comps : (("new_comps" : Str) == ("__debug__" : Str)) = false := by decide +kernel
theorem d_comp : (("comp" : Str) == ("__debug__" : Str)) = false := by decide +kernel
theorem d_splitroot : (("splitroot" : Str) == ("__debug__" : Str)) = false := by decide +kernel
theorem i29_path : idx sc29 "path" = some (0, .local) := by decide +kernel
theorem i29_sep : idx sc29 "sep" = some (1, .local) := by decide +kernel
theorem i29_dot : idx sc29 "dot" = some (2, .local) := by decide +kernel
theorem i29_dotdot : idx sc29 "dotdot" = some (3, .local) := by decide +kernel
theorem i29__ : idx sc29 "_" = some (4, .local) := by decide +kernel
theorem i29_initial_slashes : idx sc29 "initial_slashes" = some (5, .local) := by decide +kernel
theorem i29_comps : idx sc29 "comps" = some (6, .local) := by decide +kernel
theorem i29_new_comps : idx sc29 "new_comps" = some (7, .local) := by decide +kernel
theorem i29_comp : idx sc29 "comp" = some (8, .local) := by decide +kernel
theorem g29_fspath : sc29.names.lookup ("fspath" : Str) = some .globalImplicit := by decide +kernel
theorem g29_isinstance : sc29.names.lookup ("isinstance" : Str) = some .globalImplicit := by decide +kernel
theorem g29_bytes : sc29.names.lookup ("bytes" : Str) = some .globalImplicit := by decide +kernel
theorem g29_splitroot : sc29.names.lookup ("splitroot" : Str) = some .globalImplicit := by decide +kernel
noncomputable def sc31 : Scope := scOf (stAt 31)
noncomputable def bd31 : List Stmt := bdOf (stAt 31)
noncomputable def pa31 : Arguments := paOf (stAt 31)
theorem k31 : sc31.kind = .function ∧ sc31.isCoroutine = false ∧ sc31.isGenerator = false ∧ (sc31.names.map (·.1)).Nodup := by decide +kernel
theorem d_draws : (("draws" : Str) == ("__debug__" : Str)) = false := by decide +kernel
theorem d_words : (("words" : Str) == ("__debug__" : Str)) = false := by decide +kernel
theorem i31_draws : idx sc31 "draws" = some (0, .local) := by decide +kernel
theorem i31_words : idx sc31 "words" = some (1, .cell) := by decide +kernel
noncomputable def sc32 : Scope := scOf (stAt 32)
noncomputable def bd32 : List Stmt := bdOf (stAt 32)
noncomputable def pa32 : Arguments := paOf (stAt 32)
theorem k32 : sc32.kind = .function ∧ sc32.isCoroutine = false ∧ sc32.isGenerator = false ∧ (sc32.names.map (·.1)).Nodup := by decide +kernel
theorem d_pile : (("pile" : Str) == ("__debug__" : Str)) = false := by decide +kernel
theorem d_part : (("part" : Str) == ("__debug__" : Str)) = false := by decide +kernel
theorem d_name : (("name" : Str) == ("__debug__" : Str)) = false := by decide +kernel
theorem i32_parts : idx sc32 "parts" = some (0, .local) := by decide +kernel
theorem i32_pile : idx sc32 "pile" = some (1, .local) := by decide +kernel
theorem i32_part : idx sc32 "part" = some (2, .local) := by decide +kernel
theorem i32_name : idx sc32 "name" = some (3, .local) := by decide +kernel
noncomputable def sc33 : Scope := scOf (stAt 33)
noncomputable def bd33 : List Stmt := bdOf (stAt 33)
noncomputable def pa33 : Arguments := paOf (stAt 33)
theorem k33 : sc33.kind = .function ∧ sc33.isCoroutine = false ∧ sc33.isGenerator = false ∧ (sc33.names.map (·.1)).Nodup := by decide +kernel
theorem d_whole : (("whole" : Str) == ("__debug__" : Str)) = false := by decide +kernel
theorem d_join : (("join" : Str) == ("__debug__" : Str)) = false := by decide +kernel
theorem d_normpath : (("normpath" : Str) == ("__debug__" : Str)) = false := by decide +kernel
theorem i33_parts : idx sc33 "parts" = some (0, .local) := by decide +kernel
theorem i33_whole : idx sc33 "whole" = some (1, .local) := by decide +kernel
theorem i33_part : idx sc33 "part" = some (2, .local) := by decide +kernel
theorem g33_join : sc33.names.lookup ("join" : Str) = some .globalImplicit := by decide +kernel
theorem g33_normpath : sc33.names.lookup ("normpath" : Str) = some .globalImplicit := by decide +kernel
noncomputable def sc34 : Scope := scOf (stAt 34)
noncomputable def bd34 : List Stmt := bdOf (stAt 34)
noncomputable def pa34 : Arguments := paOf (stAt 34)
theorem k34 : sc34.kind = .function ∧ sc34.isCoroutine = false ∧ sc34.isGenerator = false ∧ (sc34.names.map (·.1)).Nodup := by decide +kernel
theorem d_straight : (("straight" : Str) == ("__debug__" : Str)) = false := by decide +kernel
theorem d_count : (("count" : Str) == ("__debug__" : Str)) = false := by decide +kernel
theorem d_heads : (("heads" : Str) == ("__debug__" : Str)) = false := by decide +kernel
theorem d_dirname : (("dirname" : Str) == ("__debug__" : Str)) = false := by decide +kernel
theorem i34_straight : idx sc34 "straight" = some (0, .local) := by decide +kernel
theorem i34_count : idx sc34 "count" = some (1, .local) := by decide +kernel
theorem i34_heads : idx sc34 "heads" = some (2, .local) := by decide +kernel
theorem i34__ : idx sc34 "_" = some (3, .local) := by decide +kernel
theorem g34_range : sc34.names.lookup ("range" : Str) = some .globalImplicit := by decide +kernel
theorem g34_dirname : sc34.names.lookup ("dirname" : Str) = some .globalImplicit := by decide +kernel
noncomputable def sc35 : Scope := scOf (stAt 35)
noncomputable def bd35 : List Stmt := bdOf (stAt 35)
noncomputable def pa35 : Arguments := paOf (stAt 35)
theorem k35 : sc35.kind = .function ∧ sc35.isCoroutine = false ∧ sc35.isGenerator = false ∧ (sc35.names.map (·.1)).Nodup := by decide +kernel
theorem d_spare : (("spare" : Str) == ("__debug__" : Str)) = false := by decide +kernel
theorem d_place : (("place" : Str) == ("__debug__" : Str)) = false := by decide +kernel
theorem d_turn : (("turn" : Str) == ("__debug__" : Str)) = false := by decide +kernel
theorem d_mark : (("mark" : Str) == ("__debug__" : Str)) = false := by decide +kernel
theorem i35_straight : idx sc35 "straight" = some (0, .local) := by decide +kernel
theorem i35_draws : idx sc35 "draws" = some (1, .local) := by decide +kernel
theorem i35_spare : idx sc35 "spare" = some (2, .local) := by decide +kernel
theorem i35_place : idx sc35 "place" = some (3, .local) := by decide +kernel
theorem i35_turn : idx sc35 "turn" = some (4, .local) := by decide +kernel
theorem i35_mark : idx sc35 "mark" = some (5, .local) := by decide +kernel
theorem g35_len : sc35.names.lookup ("len" : Str) = some .globalImplicit := by decide +kernel
theorem g35_dirname : sc35.names.lookup ("dirname" : Str) = some .globalImplicit := by decide +kernel
noncomputable def sc36 : Scope := scOf (stAt 36)
noncomputable def bd36 : List Stmt := bdOf (stAt 36)
noncomputable def pa36 : Arguments := paOf (stAt 36)
theorem k36 : sc36.kind = .function ∧ sc36.isCoroutine = false ∧ sc36.isGenerator = false ∧ (sc36.names.map (·.1)).Nodup := by decide +kernel
theorem d_plain : (("plain" : Str) == ("__debug__" : Str)) = false := by decide +kernel
theorem i36_plain : idx sc36 "plain" = some (0, .local) := by decide +kernel
noncomputable def sc37 : Scope := scOf (stAt 37)
noncomputable def bd37 : List Stmt := bdOf (stAt 37)
noncomputable def pa37 : Arguments := paOf (stAt 37)
theorem k37 : sc37.kind = .function ∧ sc37.isCoroutine = false ∧ sc37.isGenerator = false ∧ (sc37.names.map (·.1)).Nodup := by decide +kernel
theorem d_rule : (("rule" : Str) == ("__debug__" : Str)) = false := by decide +kernel
theorem d_names : (("names" : Str) == ("__debug__" : Str)) = false := by decide +kernel
theorem d_star : (("star" : Str) == ("__debug__" : Str)) = false := by decide +kernel
theorem d_due : (("due" : Str) == ("__debug__" : Str)) = false := by decide +kernel
theorem d_lead : (("lead" : Str) == ("__debug__" : Str)) = false := by decide +kernel
theorem d_pieces : (("pieces" : Str) == ("__debug__" : Str)) = false := by decide +kernel
theorem d__law_dress : (("_law_dress" : Str) == ("__debug__" : Str)) = false := by decide +kernel
theorem d_translate : (("translate" : Str) == ("__debug__" : Str)) = false := by decide +kernel
theorem i37_rule : idx sc37 "rule" = some (0, .local) := by decide +kernel
theorem i37_head : idx sc37 "head" = some (1, .local) := by decide +kernel
theorem i37_names : idx sc37 "names" = some (2, .local) := by decide +kernel
theorem i37_star : idx sc37 "star" = some (3, .local) := by decide +kernel
theorem i37_due : idx sc37 "due" = some (4, .local) := by decide +kernel
theorem i37_lead : idx sc37 "lead" = some (5, .local) := by decide +kernel
theorem i37_pieces : idx sc37 "pieces" = some (6, .local) := by decide +kernel
theorem i37_name : idx sc37 "name" = some (7, .local) := by decide +kernel
theorem g37__translate : sc37.names.lookup ("_translate" : Str) = some .globalImplicit := by decide +kernel
theorem g37__law_dress : sc37.names.lookup ("_law_dress" : Str) = some .globalImplicit := by decide +kernel
theorem g37_translate : sc37.names.lookup ("translate" : Str) = some .globalImplicit := by decide +kernel
theorem g37__join_translated_parts : sc37.names.lookup ("_join_translated_parts" : Str) = some .globalImplicit := by decide +kernel
noncomputable def sc38 : Scope := scOf (stAt 38)
noncomputable def bd38 : List Stmt := bdOf (stAt 38)
noncomputable def pa38 : Arguments := paOf (stAt 38)
theorem k38 : sc38.kind = .function ∧ sc38.isCoroutine = false ∧ sc38.isGenerator = false ∧ (sc38.names.map (·.1)).Nodup := by decide +kernel
theorem d_text : (("text" : Str) == ("__debug__" : Str)) = false := by decide +kernel
theorem d_runs : (("runs" : Str) == ("__debug__" : Str)) = false := by decide +kernel
theorem d_state : (("state" : Str) == ("__debug__" : Str)) = false := by decide +kernel
theorem d_spot : (("spot" : Str) == ("__debug__" : Str)) = false := by decide +kernel
theorem i38_text : idx sc38 "text" = some (0, .local) := by decide +kernel
theorem i38_runs : idx sc38 "runs" = some (1, .local) := by decide +kernel
theorem i38_state : idx sc38 "state" = some (2, .local) := by decide +kernel
theorem i38_spot : idx sc38 "spot" = some (3, .local) := by decide +kernel
theorem g38_len : sc38.names.lookup ("len" : Str) = some .globalImplicit := by decide +kernel
noncomputable def sc39 : Scope := scOf (stAt 39)
noncomputable def bd39 : List Stmt := bdOf (stAt 39)
noncomputable def pa39 : Arguments := paOf (stAt 39)
theorem k39 : sc39.kind = .function ∧ sc39.isCoroutine = false ∧ sc39.isGenerator = false ∧ (sc39.names.map (·.1)).Nodup := by decide +kernel
theorem d_run : (("run" : Str) == ("__debug__" : Str)) = false := by decide +kernel
theorem d_found : (("found" : Str) == ("__debug__" : Str)) = false := by decide +kernel
theorem i39_runs : idx sc39 "runs" = some (0, .local) := by decide +kernel
theorem i39_place : idx sc39 "place" = some (1, .local) := by decide +kernel
theorem i39_spot : idx sc39 "spot" = some (2, .local) := by decide +kernel
theorem i39_run : idx sc39 "run" = some (3, .local) := by decide +kernel
theorem i39_found : idx sc39 "found" = some (4, .local) := by decide +kernel
theorem g39_len : sc39.names.lookup ("len" : Str) = some .globalImplicit := by decide +kernel
noncomputable def sc40 : Scope := scOf (stAt 40)
noncomputable def bd40 : List Stmt := bdOf (stAt 40)
noncomputable def pa40 : Arguments := paOf (stAt 40)
theorem k40 : sc40.kind = .function ∧ sc40.isCoroutine = false ∧ sc40.isGenerator = false ∧ (sc40.names.map (·.1)).Nodup := by decide +kernel
theorem d_ends : (("ends" : Str) == ("__debug__" : Str)) = false := by decide +kernel
theorem i40_pattern : idx sc40 "pattern" = some (0, .local) := by decide +kernel
theorem i40_place : idx sc40 "place" = some (1, .cell) := by decide +kernel
theorem i40_ends : idx sc40 "ends" = some (2, .local) := by decide +kernel
theorem i40_mark : idx sc40 "mark" = some (3, .cell) := by decide +kernel
theorem g40_list : sc40.names.lookup ("list" : Str) = some .globalImplicit := by decide +kernel
theorem g40_range : sc40.names.lookup ("range" : Str) = some .globalImplicit := by decide +kernel
theorem g40_len : sc40.names.lookup ("len" : Str) = some .globalImplicit := by decide +kernel
noncomputable def sc41 : Scope := scOf (stAt 41)
noncomputable def bd41 : List Stmt := bdOf (stAt 41)
noncomputable def pa41 : Arguments := paOf (stAt 41)
theorem k41 : sc41.kind = .function ∧ sc41.isCoroutine = false ∧ sc41.isGenerator = false ∧ (sc41.names.map (·.1)).Nodup := by decide +kernel
theorem d_places : (("places" : Str) == ("__debug__" : Str)) = false := by decide +kernel
theorem d__law_runs : (("_law_runs" : Str) == ("__debug__" : Str)) = false := by decide +kernel
theorem d__law_reach : (("_law_reach" : Str) == ("__debug__" : Str)) = false := by decide +kernel
theorem d__law_farthest : (("_law_farthest" : Str) == ("__debug__" : Str)) = false := by decide +kernel
theorem i41_rule : idx sc41 "rule" = some (0, .local) := by decide +kernel
theorem i41_head : idx sc41 "head" = some (1, .local) := by decide +kernel
theorem i41_places : idx sc41 "places" = some (2, .local) := by decide +kernel
theorem i41_runs : idx sc41 "runs" = some (3, .local) := by decide +kernel
theorem i41_pattern : idx sc41 "pattern" = some (4, .local) := by decide +kernel
theorem i41_place : idx sc41 "place" = some (5, .local) := by decide +kernel
theorem g41__law_runs : sc41.names.lookup ("_law_runs" : Str) = some .globalImplicit := by decide +kernel
theorem g41__law_reach : sc41.names.lookup ("_law_reach" : Str) = some .globalImplicit := by decide +kernel
theorem g41__law_farthest : sc41.names.lookup ("_law_farthest" : Str) = some .globalImplicit := by decide +kernel
noncomputable def sc42 : Scope := scOf (stAt 42)
noncomputable def bd42 : List Stmt := bdOf (stAt 42)
noncomputable def pa42 : Arguments := paOf (stAt 42)
theorem k42 : sc42.kind = .function ∧ sc42.isCoroutine = false ∧ sc42.isGenerator = false ∧ (sc42.names.map (·.1)).Nodup := by decide +kernel
theorem d_script : (("script" : Str) == ("__debug__" : Str)) = false := by decide +kernel
theorem d_up : (("up" : Str) == ("__debug__" : Str)) = false := by decide +kernel
theorem d__law_parts : (("_law_parts" : Str) == ("__debug__" : Str)) = false := by decide +kernel
theorem d__law_pile : (("_law_pile" : Str) == ("__debug__" : Str)) = false := by decide +kernel
theorem d__law_straight : (("_law_straight" : Str) == ("__debug__" : Str)) = false := by decide +kernel
theorem d__law_heads : (("_law_heads" : Str) == ("__debug__" : Str)) = false := by decide +kernel
theorem d__law_places : (("_law_places" : Str) == ("__debug__" : Str)) = false := by decide +kernel
theorem d_translate_pattern : (("translate_pattern" : Str) == ("__debug__" : Str)) = false := by decide +kernel
theorem d__law_frames : (("_law_frames" : Str) == ("__debug__" : Str)) = false := by decide +kernel
theorem d__law_reaches : (("_law_reaches" : Str) == ("__debug__" : Str)) = false := by decide +kernel
theorem d_basename : (("basename" : Str) == ("__debug__" : Str)) = false := by decide +kernel
theorem i42_script : idx sc42 "script" = some (0, .local) := by decide +kernel
theorem i42_draws : idx sc42 "draws" = some (1, .local) := by decide +kernel
theorem i42_parts : idx sc42 "parts" = some (2, .local) := by decide +kernel
theorem i42_pile : idx sc42 "pile" = some (3, .cell) := by decide +kernel
theorem i42_straight : idx sc42 "straight" = some (4, .local) := by decide +kernel
theorem i42_heads : idx sc42 "heads" = some (5, .local) := by decide +kernel
theorem i42_names : idx sc42 "names" = some (6, .local) := by decide +kernel
theorem i42_places : idx sc42 "places" = some (7, .local) := by decide +kernel
theorem i42_up : idx sc42 "up" = some (8, .local) := by decide +kernel
theorem i42_rule : idx sc42 "rule" = some (9, .local) := by decide +kernel
theorem g42__law_parts : sc42.names.lookup ("_law_parts" : Str) = some .globalImplicit := by decide +kernel
theorem g42__law_pile : sc42.names.lookup ("_law_pile" : Str) = some .globalImplicit := by decide +kernel
theorem g42__law_straight : sc42.names.lookup ("_law_straight" : Str) = some .globalImplicit := by decide +kernel
theorem g42__law_heads : sc42.names.lookup ("_law_heads" : Str) = some .globalImplicit := by decide +kernel
theorem g42_len : sc42.names.lookup ("len" : Str) = some .globalImplicit := by decide +kernel
theorem g42_range : sc42.names.lookup ("range" : Str) = some .globalImplicit := by decide +kernel
theorem g42__law_places : sc42.names.lookup ("_law_places" : Str) = some .globalImplicit := by decide +kernel
theorem g42_translate_pattern : sc42.names.lookup ("translate_pattern" : Str) = some .globalImplicit := by decide +kernel
theorem g42__law_frames : sc42.names.lookup ("_law_frames" : Str) = some .globalImplicit := by decide +kernel
theorem g42__law_reaches : sc42.names.lookup ("_law_reaches" : Str) = some .globalImplicit := by decide +kernel
/-- the functions of the text in the ground heap, the built-in names that no global hides -/
structure Fns (G : Gl) : Prop where
  t0 : 0 < G.t0
  f4 : ∃ f, FnAt G "escape" pa4 bd4 sc4 f
  f6 : ∃ f, FnAt G "translate_pattern" pa6 bd6 sc6 f
  f9 : ∃ f, FnAt G "translate" pa9 bd9 sc9 f
  f10 : ∃ f, FnAt G "_translate" pa10 bd10 sc10 f
  f11 : ∃ f, FnAt G "_join_translated_parts" pa11 bd11 sc11 f
  f20 : ∃ f, FnAt G "fspath" pa20 bd20 sc20 f
  f24 : ∃ f, FnAt G "_get_sep" pa24 bd24 sc24 f
  f25 : ∃ f, FnAt G "join" pa25 bd25 sc25 f
  f26 : ∃ f, FnAt G "splitroot" pa26 bd26 sc26 f
  f27 : ∃ f, FnAt G "basename" pa27 bd27 sc27 f
  f28 : ∃ f, FnAt G "dirname" pa28 bd28 sc28 f
  f29 : ∃ f, FnAt G "normpath" pa29 bd29 sc29 f
  f31 : ∃ f, FnAt G "_law_parts" pa31 bd31 sc31 f
  f32 : ∃ f, FnAt G "_law_pile" pa32 bd32 sc32 f
  f33 : ∃ f, FnAt G "_law_straight" pa33 bd33 sc33 f
  f34 : ∃ f, FnAt G "_law_heads" pa34 bd34 sc34 f
  f35 : ∃ f, FnAt G "_law_places" pa35 bd35 sc35 f
  f36 : ∃ f, FnAt G "_law_dress" pa36 bd36 sc36 f
  f37 : ∃ f, FnAt G "_law_frames" pa37 bd37 sc37 f
  f38 : ∃ f, FnAt G "_law_runs" pa38 bd38 sc38 f
  f39 : ∃ f, FnAt G "_law_reach" pa39 bd39 sc39 f
  f40 : ∃ f, FnAt G "_law_farthest" pa40 bd40 sc40 f
  f41 : ∃ f, FnAt G "_law_reaches" pa41 bd41 sc41 f
  n_isinstance : G.mg "isinstance" = none
  n_str : G.mg "str" = none
  n_list : G.mg "list" = none
  n_map : G.mg "map" = none
  n_range : G.mg "range" = none
  n_len : G.mg "len" = none
  n_object : G.mg "object" = none
  n_type : G.mg "type" = none
  n_issubclass : G.mg "issubclass" = none
  n_bytes : G.mg "bytes" = none
theorem call_fnv {G : Gl} {n : Nat} {t : Bool} {name : Str} {params : Arguments} {body : List Stmt} {scope : Scope} {f : Addr} {args₀ args : List V} {r : V} (as : List Str) (m : Nat) (hf : FnAt G name params body scope f) (hlen : as.length = args.length)
    (hp : ∀ v ∈ args, v.plain = true) (hbind : ∀ (qual : Str) (doc pm cdv ct : Value) (A : Around) (mu : Addr → Prop) (s : Shared) (vals : List Value) (E : Value → Shared → Prop) (Q : List (Str × Value) → Shared → Prop), Room (n + 1) A → Around0 G mu s → RepAll mu s.heap args₀ vals →
      (∀ s' vals', Kt G false s s' → s.toks ≤ s'.toks → RepAll mu s'.heap args vals' → Q (as.zip vals') s') → wpAny (model G.prog G.w) A.in1 (bindArgs (fnOf name qual params body scope .none .none doc pm none cdv ct) ⟨vals, []⟩) Q E s)
    (hfirst : ∀ (i : Nat) a, as[i]? = some a → ∃ kd, scope.names[i]? = some (a, kd) ∧ (kd = .local ∨ kd = .cell)) (hnd : (scope.names.map (·.1)).Nodup) (hk : scope.kind = .function) (hco : scope.isCoroutine = false) (hgen : scope.isGenerator = false)
    (hb : EX G n scope t body (args ++ List.replicate m .unb) (retOf r)) : CallV G (n + 1) t (.ref f) args₀ r := by
  intro A mu s₀ vals₀ E rm ar₀ rv₀
  obtain ⟨⟨oc, od, osl, qual, doc, pm, cdv, ct, ho, hcd, hcT⟩, hg⟩ := hf
  have ndAs : as.Nodup := by
    rw [List.nodup_iff_pairwise_ne, List.pairwise_iff_getElem]
    intro i j hi hj hij e
    obtain ⟨k1, p1, _⟩ := hfirst i as[i] (List.getElem?_eq_getElem hi)
    obtain ⟨k2, p2, _⟩ := hfirst j as[j] (List.getElem?_eq_getElem hj)
    rw [e] at p1
    exact absurd (nodup_at hnd p1 p2) (Nat.ne_of_lt hij)
  have names_lookup : ∀ {k : Nat} {x : Str} {kd : NameKind}, scope.names[k]? = some (x, kd) → scope.names.lookup x = some kd := by
    intro k x kd e
    have gen : ∀ (l : List (Str × NameKind)) (k : Nat), (l.map (·.1)).Nodup → l[k]? = some (x, kd) → l.lookup x = some kd := by
      intro l
      induction l with
      | nil => intro k _ h; simp at h
      | cons p l ih =>
        obtain ⟨y, q⟩ := p
        intro k hn h
        rw [List.map_cons, List.nodup_cons] at hn
        cases k with
        | zero => simp at h; obtain ⟨rfl, rfl⟩ := h; simp
        | succ k =>
          simp at h
          have hx : x ∈ l.map (·.1) := List.mem_map_of_mem (f := (·.1)) (List.mem_of_getElem? h)
          have hne : x ≠ y := fun q => hn.1 (q ▸ hx)
          have e' : (x == y) = false := by simpa using hne
          rw [List.lookup_cons, e']
          exact ih k hn.2 h
    exact gen _ _ hnd e
  refine wpAny_call ?_
  refine codeAny_call_function (fd := fnOf name qual params body scope .none .none doc pm none cdv ct) (body := body) (by have := rm.1; simp only [recursionLimit]; omega) (ar₀.keep _ _ ho) rfl hco hgen rfl (hcd.keeps ar₀.keep) ?_
  refine hbind _ _ _ _ _ _ _ _ _ _ _ rm ar₀ rv₀ fun s vals K₀ tk₀ rv => ?_
  have ar : Around0 G mu s := ⟨fun b o e => K₀.strict b o (ar₀.keep b o e), Nat.le_trans ar₀.toks tk₀, Gl.tabKt ar₀.tab K₀.strict, fun b hb => by obtain ⟨o, e⟩ := ar₀.live b hb; exact ⟨o, K₀.strict b o e⟩, ar₀.mutT⟩
  have hvl : vals.length = as.length := rv.length.trans hlen.symm
  have zipk : (as.zip vals).map (·.1) = as := by
    rw [List.map_fst_zip]; omega
  have inAs : ∀ x ∈ as.zip vals, ∃ (i : Nat) (kd : NameKind), as[i]? = some x.1 ∧ vals[i]? = some x.2 ∧ scope.names[i]? = some (x.1, kd) ∧ (kd = NameKind.local ∨ kd = NameKind.cell) := by
    intro x hx
    obtain ⟨i, hi, e⟩ := List.getElem_of_mem hx
    have e' : (as.zip vals)[i]? = some x := by rw [List.getElem?_eq_getElem hi, e]
    rw [List.getElem?_zip_eq_some] at e'
    obtain ⟨kd, p1, p2⟩ := hfirst i x.1 e'.1
    exact ⟨i, kd, e'.1, e'.2, p1, p2⟩
  refine (wpAny_with_toks (n := s.toks) (Nat.le_refl _) (wpAny_newFunctionEnv_cells hk (fun x hx => ?_) fun env he s₁ IC toks => ?_))
  · obtain ⟨i, kd, _, _, p1, p2⟩ := inAs x hx
    rcases p2 with rfl | rfl
    · exact .inl (names_lookup p1)
    · exact .inr ⟨names_lookup p1, cellsFrom_some _ _ _ (.inl (names_lookup p1))⟩
  · have eL : env.scope = scope := by rw [he]; rfl
    have eg : env.globals = mainGlobals := by rw [he]; rfl
    have eb : env.builtins = builtinsNs := by rw [he]; rfl
    have ec : env.cells = cellsFrom (s.heap.objs.size + 1) scope.names [] := by rw [he]; rfl
    have ecd : env.code = cdv := by rw [he]; rfl
    clear he
    refine ⟨G.nl.keeps fun b o e => IC.toInCall.keep b o (ar.keep b o e), codeAny_func ?_⟩
    obtain ⟨h₁, tk₁, es₁⟩ := IC.toInCall.same
    have keep := IC.toInCall.keep
    have freshL := IC.toInCall.fresh
    have above : ∀ c ∈ env.cells, env.locals < c.2 := fun c hc => IC.above c.1 c.2 hc
    have dead : ∀ b, s.heap.objs.size ≤ b → s.heap.get? b = none := fun b hb => by
      cases e : s.heap.get? b with
      | none => rfl
      | some o => exact absurd (Heap.lt_size e) (Nat.not_lt.mpr hb)
    have deadC : ∀ c ∈ env.cells, s.heap.get? c.2 = none := fun c hc => dead _ (Nat.le_of_lt (Nat.lt_of_le_of_lt freshL (above c hc)))
    have g0 : ∀ b, s.heap.get? b = none → G.g₀.get? b = none := fun b hb => by
      cases e : G.g₀.get? b with
      | none => rfl
      | some o => rw [ar.keep b o e] at hb; cases hb
    have tabl : ∃ o, s.heap.get? G.tab = some o := G.tabLive ar.tab
    have neT : ∀ b, s.heap.get? b = none → b ≠ G.tab := fun b hb q => by obtain ⟨o, e⟩ := tabl; rw [← q, hb] at e; cases e
    have kf : ∀ {k : Nat} {x : Str} {kd : NameKind}, scope.names[k]? = some (x, kd) → env.kindOf x = some kd := fun e => by unfold Env.kindOf; rw [eL]; exact names_lookup e
    let D : Dyn := ⟨A.deeper env, env, fun b => mu b ∨ b = env.locals ∨ ∃ c ∈ env.cells, c.2 = b⟩
    have O : D.Ok G n scope := ⟨eL, hk, eg, eb, ⟨by have := rm.1; show A.depth + 1 + n < 900; omega, by have := rm.2.1; show A.units + 3 + 20 * n < 9000; omega, rm.2.2⟩, .inr (.inl rfl), fun c hc => .inr (.inr ⟨c, hc, rfl⟩), .inl ar.mutT,
      g0 _ (dead _ freshL), fun c hc => g0 _ (deadC c hc), neT _ (dead _ freshL), fun c hc => neT _ (deadC c hc), fun c hc => Nat.ne_of_gt (above c hc), IC.apart, hnd, fun h => ecd.trans (hcT h)⟩
    have hbad : ∀ b, Bad D (fun _ => none) b → mu b ∨ s.heap.get? b = none := by
      rintro b ((h | h | ⟨c, hc, h⟩) | ⟨k, h⟩)
      · exact .inl h
      · exact .inr (h ▸ dead _ freshL)
      · exact .inr (h ▸ deadC c hc)
      · cases h
    have litL : ∃ o, s₁.heap.get? env.locals = some o := by obtain ⟨o, _, _, e, _⟩ := IC.toInCall.ns; exact ⟨o, e⟩
    have litC : ∀ c ∈ env.cells, ∃ o, s₁.heap.get? c.2 = some o := fun c hc => by
      have ca : env.cells.lookup c.1 = some c.2 := by
        have : ∃ v, env.cells.lookup c.1 = some v := by
          cases e : env.cells.lookup c.1 with
          | some v => exact ⟨v, rfl⟩
          | none => exact absurd hc (fun h => by
              have := List.lookup_eq_none_iff.mp e c h
              simp at this)
        obtain ⟨v, hv⟩ := this
        have hm := mem_of_lookup hv
        have : v = c.2 := by
          have nd : (env.cells.map (·.1)).Nodup := by rw [ec]; exact cells_nodup scope.names _ hnd
          exact cells_one nd hm hc
        rw [hv, this]
      obtain ⟨o, e, _⟩ := IC.cell c.1 c.2 ca; exact ⟨o, e⟩
    have R : Rel G D (fun _ => none) (args ++ List.replicate m .unb) s₁ := by
      have arg_at : ∀ {k : Nat} {x : Str} {kd : NameKind} {v : V}, scope.names[k]? = some (x, kd) → (args ++ List.replicate m V.unb)[k]? = some v → v ≠ .unb →
          ∃ val, (x, val) ∈ as.zip vals ∧ RepVar D (fun _ => none) s₁.heap k v val := by
        intro k x kd v e1 e2 e3
        by_cases hka : k < args.length
        · rw [List.getElem?_append_left hka] at e2
          obtain ⟨val, p1, p2⟩ := rv.get e2
          have hkas : k < as.length := by omega
          have ea : as[k]? = some as[k] := List.getElem?_eq_getElem hkas
          obtain ⟨kd', q1, _⟩ := hfirst k _ ea
          rw [e1] at q1
          have : x = as[k] := (Prod.mk.inj (Option.some.inj q1)).1
          have hpl := hp v (List.mem_of_getElem? e2)
          refine ⟨val, ?_, repVar_of (p2.mono hbad (fun b o _ e => keep b o e) (by intro l e; subst e; cases hpl)) hpl⟩
          refine List.mem_of_getElem? (i := k) ?_
          rw [List.getElem?_zip_eq_some]
          exact ⟨by rw [ea, this], p1⟩
        · rw [List.getElem?_append_right (by omega)] at e2
          exact absurd (List.eq_of_mem_replicate (List.mem_of_getElem? e2)) e3
      refine ⟨fun b o e => keep b o (ar.keep b o e), Nat.le_trans ar.toks toks, G.tabKeep ar.tab hbad fun b o _ e => keep b o e, fun b h => ?_, ⟨_, IC.toInCall.ns, fun k x v e1 e2 e3 => ?_⟩, fun k x e1 => ?_, fun k a e => (by cases e), fun k k' a e => (by cases e)⟩
      · rcases h with h | h | ⟨c, hc, h⟩
        · obtain ⟨o, e⟩ := ar.live b h; exact ⟨o, keep b o e⟩
        · exact h ▸ litL
        · exact h ▸ litC c hc
      · have e1' : scope.names[k]? = some (x, .local) := by rw [← eL]; exact e1
        obtain ⟨val, p1, p2⟩ := arg_at e1' e2 e3
        exact ⟨val, bindL_at (kf e1') _ _ (by rw [zipk]; exact ndAs) p1, p2⟩
      · have e1' : scope.names[k]? = some (x, .cell) := by rw [← eL]; exact e1
        have hs := cellsFrom_some (x := x) scope.names (s.heap.objs.size + 1) [] (.inl (names_lookup e1'))
        obtain ⟨c, hc⟩ := Option.isSome_iff_exists.mp hs
        rw [← ec] at hc
        refine ⟨c, _, hc, IC.cell x c hc, fun v e2 e3 => ?_⟩
        obtain ⟨val, p1, p2⟩ := arg_at e1' e2 e3
        exact ⟨val, bindC_at (kf e1') _ _ (by rw [zipk]; exact ndAs) p1, p2⟩
    refine wpAny_mono (hb D _ s₁ _ O R) (fun fl s' x => ?_) fun _ _ x => x
    obtain ⟨fo, σ', ow', x1, x2, x3, x4, x5⟩ := x
    have Kfin : Kt G t s₀ s' := by
      refine K₀.weak.trans ?_
      obtain ⟨h', tk, e, kk⟩ := x3
      refine ⟨h', tk, by rw [e, es₁], fun b o hb e' => kk b o ⟨fun q => ?_, fun c hc q => ?_, fun k q => ?_, hb⟩ (keep b o e')⟩
      · rw [q, dead _ freshL] at e'; cases e'
      · rw [← q, deadC c hc] at e'; cases e'
      · cases q
    have Tfin : G.TabOk mu s'.heap := G.tabKeep x2.tab (fun b q => .inl (.inl (.inl q))) fun _ _ _ e => e
    have shrink : ∀ {v : V} {val : Value}, Rep D.mu s'.heap v val → Rep mu s'.heap v val := by
      intro v val r
      cases v with
      | loan l => exact r
      | list l => exact Rep.mono (v := .list l) r (fun b q => .inl (.inl q)) (fun _ _ _ e => e) (by intro l e; cases e)
      | arr l => exact Rep.mono (v := .arr l) r (fun b q => .inl (.inl q)) (fun _ _ _ e => e) (by intro l e; cases e)
      | tuple l => exact Rep.mono (v := .tuple l) r (fun b q => .inl (.inl q)) (fun _ _ _ e => e) (by intro l e; cases e)
      | range b c d => exact Rep.mono (v := .range b c d) r (fun b q => .inl (.inl q)) (fun _ _ _ e => e) (by intro l e; cases e)
      | _ => exact r
    cases fo with
    | next =>
      cases fl <;> first | exact x1.elim | skip
      have : r = .none := x5
      subst this
      exact ⟨rfl, Kfin, Tfin⟩
    | brk => exact x5.elim
    | cont => exact x5.elim
    | ret v =>
      cases fl <;> first | exact x1.elim | skip
      have : v = r := x5
      subst this
      exact ⟨shrink x1, Kfin, Tfin⟩
theorem call_fn {G : Gl} {n : Nat} {t : Bool} {name : Str} {params : Arguments} {body : List Stmt} {scope : Scope} {f : Addr} {args : List V} {r : V} (as : List Str) (m : Nat) (hf : FnAt G name params body scope f) (hlen : as.length = args.length)
    (hp : ∀ v ∈ args, v.plain = true) (hbind : ∀ (qual : Str) (doc pm cdv ct : Value) (vals : List Value), vals.length = as.length → bindArgs (fnOf name qual params body scope .none .none doc pm none cdv ct) ⟨vals, []⟩ = pure (as.zip vals))
    (hfirst : ∀ (i : Nat) a, as[i]? = some a → ∃ kd, scope.names[i]? = some (a, kd) ∧ (kd = .local ∨ kd = .cell)) (hnd : (scope.names.map (·.1)).Nodup) (hk : scope.kind = .function) (hco : scope.isCoroutine = false) (hgen : scope.isGenerator = false)
    (hb : EX G n scope t body (args ++ List.replicate m .unb) (retOf r)) : CallV G (n + 1) t (.ref f) args r :=
  call_fnv as m hf hlen hp (fun qual doc pm cdv ct A mu s vals E Q rm ar rv hQ => by
    rw [hbind _ _ _ _ _ _ (rv.length.trans hlen.symm)]
    exact wpAny_pure (hQ s vals (Kt.refl _ _ _) (Nat.le_refl _) rv)) hfirst hnd hk hco hgen hb
theorem ty_find : typeOf (.builtin "str.find") = pure (.type "method_descriptor") := by kernel_rfl
theorem ty_rfind : typeOf (.builtin "str.rfind") = pure (.type "method_descriptor") := by kernel_rfl
theorem ty_startswith : typeOf (.builtin "str.startswith") = pure (.type "method_descriptor") := by kernel_rfl
theorem ty_endswith : typeOf (.builtin "str.endswith") = pure (.type "method_descriptor") := by kernel_rfl
theorem ty_split : typeOf (.builtin "str.split") = pure (.type "method_descriptor") := by kernel_rfl
theorem ty_join : typeOf (.builtin "str.join") = pure (.type "method_descriptor") := by kernel_rfl
theorem ty_rstrip : typeOf (.builtin "str.rstrip") = pure (.type "method_descriptor") := by kernel_rfl
theorem ty_replace : typeOf (.builtin "str.replace") = pure (.type "method_descriptor") := by kernel_rfl
theorem ty_translate : typeOf (.builtin "str.translate") = pure (.type "method_descriptor") := by kernel_rfl
theorem bb_isinstance : bootBuiltins ("isinstance" : Str) = some (.builtin "isinstance") := by rfl
theorem bb_str : bootBuiltins ("str" : Str) = some (.type "str") := by rfl
theorem bb_list : bootBuiltins ("list" : Str) = some (.type "list") := by rfl
theorem bb_map : bootBuiltins ("map" : Str) = some (.type "map") := by rfl
theorem bb_range : bootBuiltins ("range" : Str) = some (.type "range") := by rfl
theorem bb_len : bootBuiltins ("len" : Str) = some (.builtin "len") := by rfl
theorem bb_object : bootBuiltins ("object" : Str) = some (.type "object") := by rfl
theorem bb_type : bootBuiltins ("type" : Str) = some (.type "type") := by rfl
theorem bb_issubclass : bootBuiltins ("issubclass" : Str) = some (.builtin "issubclass") := by rfl
theorem bb_bytes : bootBuiltins ("bytes" : Str) = some (.type "bytes") := by rfl
section
variable {G : Gl} {n : Nat} {F : Scope} {t : Bool} {σ : List V} {pos : Pos}

theorem first_of {as : List Str} {names : List (Str × NameKind)} (h1 : (names.take as.length).map (·.1) = as) (h2 : ((names.take as.length).all fun p => p.2 == .local || p.2 == .cell) = true) :
    ∀ (i : Nat) a, as[i]? = some a → ∃ kd, names[i]? = some (a, kd) ∧ (kd = .local ∨ kd = .cell) := by
  intro i a e
  have hi : i < as.length := (List.getElem?_eq_some_iff.mp e).1
  rw [← h1, List.getElem?_map] at e
  cases e2 : (names.take as.length)[i]? with
  | none => rw [e2] at e; cases e
  | some p =>
    rw [e2] at e
    have e3 : p.1 = a := Option.some.inj e
    have m := List.all_eq_true.mp h2 p (List.mem_of_getElem? e2)
    rw [List.getElem?_take_of_lt hi] at e2
    refine ⟨p.2, by rw [e2, ← e3], ?_⟩
    simpa using m
theorem calln {name : Str} {params : Arguments} {body : List Stmt} {scope : Scope} {args : List V} {r : V} (as : List Str) (m : Nat) (hf : ∃ f, FnAt G name params body scope f) (hk : scope.kind = .function ∧ scope.isCoroutine = false ∧ scope.isGenerator = false ∧ (scope.names.map (·.1)).Nodup)
    (hfirst : (scope.names.take as.length).map (·.1) = as ∧ ((scope.names.take as.length).all fun p => p.2 == .local || p.2 == .cell) = true)
    (hbind : ∀ (qual : Str) (doc pm cdv ct : Value) (vals : List Value), vals.length = as.length → bindArgs (fnOf name qual params body scope .none .none doc pm none cdv ct) ⟨vals, []⟩ = pure (as.zip vals))
    (hlen : as.length = args.length) (hp : ∀ v ∈ args, v.plain = true) (hb : EX G n scope t body (args ++ List.replicate m .unb) (retOf r)) : CallN G (n + 1) t name args r := by
  obtain ⟨f, hf⟩ := hf
  have c := call_fn as m hf hlen hp hbind (first_of hfirst.1 hfirst.2) hk.2.2.2 hk.1 hk.2.1 hk.2.2.1 hb
  obtain ⟨⟨oc, od, osl, qual, doc, pm, cdv, ct, ho, _⟩, hg⟩ := hf
  exact ⟨f, _, _, hg, ho, rfl, c⟩
/-- a built-in by its name -/
theorem e_bcall {x : Str} {np : Pos} {es : List Expr} {id : String} {vs : List V} {r : V} (hk : F.names.lookup x = some .globalImplicit) (hg : G.mg x = none) (hv : bootBuiltins x = some (.builtin id)) (hn : x ≠ ("__name__" : Str)) (hd : (x == ("__debug__" : Str)) = false)
    (hx : ∀ as, eval (.Call (.Name x np) as [] pos) = fun env => (do callWith pos (← eval (.Name x np) env) [] (backTo pos (starEach as env)) (backToKw pos (keywordEach [] env))))
    (hns : NoStar es) (ha : SP G n F t pos es σ vs) (hc : CallV G n t (.builtin id) vs r) : EP G n F t (.Call (.Name x np) es [] pos) σ r :=
  e_call_b hx (e_builtin hk hg hv hn hd) ha hns hc
theorem e_tcall {x : Str} {np : Pos} {es : List Expr} {T : String} {vs : List V} {r : V} (hk : F.names.lookup x = some .globalImplicit) (hg : G.mg x = none) (hv : bootBuiltins x = some (.type T)) (hn : x ≠ ("__name__" : Str)) (hd : (x == ("__debug__" : Str)) = false)
    (hx : ∀ as, eval (.Call (.Name x np) as [] pos) = fun env => (do callWith pos (← eval (.Name x np) env) [] (backTo pos (starEach as env)) (backToKw pos (keywordEach [] env))))
    (hns : NoStar es) (ha : SP G n F t pos es σ vs) (hc : CallV G n t (.type T) vs r) : EP G n F t (.Call (.Name x np) es [] pos) σ r :=
  e_call_t hx (e_builtin hk hg hv hn hd) ha hns hc
theorem xs_assign {x : Str} {e : Expr} {k : Nat} {kd : NameKind} {v : V} {p : Pos} {σ' : List V} {Q : Flo → List V → Prop} (hk : idx F x = some (k, kd)) (hkd : (kd == .local || kd == .cell) = true) (he : EP G n F t e σ v) (hp : v.plain = true)
    (hsw : ∀ env : Env, env.scope = F → swapsWith e (some (.Name x p)) pos.line env = pure false) (hs : σ.set k v = σ') (hl : k < σ.length) (h : Q .next σ') : EX1 G n F t (.Assign [.Name x p] e pos) σ Q := x_assign hk hkd he hp hl hsw (hs ▸ h)
theorem CallV.of_list2 {f : Value} {a : V} {l : List V} {r : V} (h : CallV G n t f [a, .loan l] r) : CallV G n t f [a, .list l] r := fun A mu s vals E rm ar rv => by
  obtain ⟨v, w, rfl, h1, h2⟩ := args2 rv
  obtain ⟨a, items, rfl, _, p, q⟩ := h2
  exact h A mu s _ E rm ar ⟨h1, ⟨a, items, rfl, p.isList, q⟩, trivial⟩
theorem c_join_list {x : Str} {ys : List Str} (hz : (ys.map (·.length)).sum + ys.length * x.length ≤ 16777216) : CallV G n t (.builtin "str.join") [.str x, .list (ys.map .str)] (.str (Txt.join x ys)) := CallV.of_list2 (c_join hz)
theorem c_len_list {l : List V} (hz : l.length ≤ 16777216) : CallV G n t (.builtin "len") [.list l] (.int l.length) := fun A mu s vals E rm ar rv => by
  obtain ⟨v, rfl, a, items, rfl, _, p, q⟩ := args1 rv
  exact c_len_loan hz A mu s _ E rm ar ⟨⟨a, items, rfl, p.isList, q⟩, trivial⟩
theorem e_methc {o : Expr} {name : Str} {apos : Pos} {es : List Expr} {id : String} {x : Str} {vs : List V} {r : V} (slot : Slot "str" name id) (ty : typeOf (.builtin id) = pure (.type "method_descriptor"))
    (hb : ∀ env whole, attributeBase o name env whole = whole) (hfew : ∀ env, ((backTo pos (starEach es env)).all (fun x => !x.1) && (backToKw pos (keywordEach [] env)).all (fun x => x.1.isSome)
      && decide (es.length + ([] : List Keyword).length + (if ([] : List Keyword).isEmpty then 0 else 1) < 30)) = true) (hline : (apos.endLine == pos.line) = true) (hns : NoStar es)
    (ho : EP G n F t o σ (.str x)) (ha : SP G n F t pos es σ vs) (hc : CallV G n t (.builtin id) (.str x :: vs) r) : EP G n F t (.Call (.Attribute o name apos) es [] pos) σ r := e_meth slot ty hb hfew hline ho ha hns hc
theorem x_cons_assign {x : Str} {e : Expr} {k : Nat} {kd : NameKind} {v : V} {p : Pos} {σ' : List V} {ss : List Stmt} {Q : Flo → List V → Prop} (hk : idx F x = some (k, kd)) (hkd : (kd == .local || kd == .cell) = true)
    (hsw : ∀ env : Env, env.scope = F → swapsWith e (some (.Name x p)) pos.line env = pure false) (he : EP G n F t e σ v) (hp : v.plain = true) (hs : σ.set k v = σ') (hl : k < σ.length) (h : EX G n F t ss σ' Q) : EX G n F t (.Assign [.Name x p] e pos :: ss) σ Q :=
  x_cons (xs_assign hk hkd he hp hsw hs hl h)
theorem x_cons_return {e : Expr} {v : V} {ss : List Stmt} {Q : Flo → List V → Prop} (he : EP G n F t e σ v) (hp : v.plain = true) (h : Q (.ret v) σ) : EX G n F t (.Return (some e) pos :: ss) σ Q := x_cons (x_return he hp h)
noncomputable def seqQ (P : List V → Prop) (Q : Flo → List V → Prop) : Flo → List V → Prop := fun f σ' => match f with
  | .next => P σ'
  | f => Q f σ'
theorem x_cons_if {test : Expr} {body orelse ss : List Stmt} {b : Bool} {Q : Flo → List V → Prop} (ht : ET G n F t test σ b) (h1 : b = true → EX G n F t body σ (seqQ (fun σ' => EX G n F t ss σ' Q) Q))
    (h2 : b = false → EX G n F t orelse σ (seqQ (fun σ' => EX G n F t ss σ' Q) Q)) : EX G n F t (.If test body orelse pos :: ss) σ Q := x_cons (x_if ht (fun h => (h1 h).mono fun f σ' q => by cases f <;> exact q) (fun h => (h2 h).mono fun f σ' q => by cases f <;> exact q))
theorem x_nil_seq {P : List V → Prop} {Q : Flo → List V → Prop} (h : P σ) : EX G n F t [] σ (seqQ P Q) := x_nil h
end
theorem f_sub_str : isSubtype (.type "str") (.type "str") = pure true := by rw [isSubtype_type]; kernel_rfl
theorem f_sub_tup : isSubtype (.type "tuple") (.type "tuple") = pure true := by rw [isSubtype_type]; kernel_rfl
theorem f_meta_str : typeOf (.type "str") = pure (.type "type") := by kernel_rfl
theorem args_sub_3 (a b c : Value) : argsOk "issubclass.nested" ⟨[a, b, c], []⟩ := by unfold argsOk; kernel_rfl
theorem kind_sub : builtinKind "issubclass.nested" = none := by decide +kernel
theorem plain_sub : plainId "issubclass.nested" = true := by decide +kernel
theorem sub_str (dep : Int) (tk : Tok) : Meets (Builtin.«issubclass.nested» ⟨[.type "str", .type "str", .int dep tk], []⟩) (fun _ R s => R (.ok (.ret (.bool true))) s) := by
  intro prog w A R s h
  have hm := f_meta_str
  have hself := f_sub_str
  repeat (any_goals (first | assumption | (rw [if_pos hm]) | (rw [hself]) | wp_step))
theorem sub_tuple {prog : Program} {w : World} {A : Around} {E : Value → Shared → Prop} {tp : Addr} {tk : Tok} {s : Shared} {Q : Fin → Shared → Prop} {dd : Option Addr} {nn : Nat} {sl : Array (Option Value)} {cs rest : List Value} (hcs : cs = Value.type "str" :: rest)
    (htp : s.heap.get? tp = some { cls := .type "tuple", dict := dd, data := .seq cs.toArray nn, slots := sl })
    (hq : ∀ tk', Q (.done (.ret (.bool true))) { s with toks := tk' }) : wpAny (model prog w) A (Builtin.«issubclass.nested» ⟨[.type "str", .ref tp, .int 0 tk], []⟩) Q E s := by
  obtain ⟨h, g, d, t, os⟩ := s
  have hT2 : (⟨h, g, d, t, os⟩ : Shared).TypeIs (.ref tp) "tuple" := ⟨_, htp, rfl⟩
  have f1 := f_sub_tup
  repeat (any_goals (first | assumption | wp_step))
  refine wpAny_arrayLoop ?_
  simp only [Option.getD_some, List.toList_toArray]
  subst hcs
  rw [List.forIn_cons]
  refine wpAny_bind (wpAny_bind (call_function_meets kind_sub plain_sub F.entry_issubclass_nested (args_sub_3 _ _ _) (sub_str _ _) ?_))
  show wpAny _ _ (truthy (.bool true) >>= _) _ _ _
  refine wpAny_bind (m := truthy (.bool true)) (wpAny_pure ?_)
  refine wpAny_bind (wpAny_pure (wpAny_pure (wpAny_pure ?_)))
  repeat (any_goals (first | assumption | wp_step))
  exact hq _
section
variable {G : Gl} {n : Nat} {t : Bool}
theorem c_issub : CallV G n t (.builtin "issubclass") [.raw (.type "str"), .tuple [.raw (.type "str"), .raw (.type "bytes")]] (.bool true) := fun A mu s vals E rm ar rv => by
  obtain ⟨v, w, rfl, r1, r2⟩ := args2 rv
  cases (show v = _ from r1)
  obtain ⟨a, items, rfl, nb, ⟨⟨cls, dd, data, sl⟩, ho, hc, nn, hd⟩, q⟩ := r2
  simp only at hc hd
  subst hc hd
  obtain ⟨v1, v2, rfl⟩ := len2 q.length
  cases (show v1 = _ from q.1)
  refine call_issubclass (S := fun A R s' => s' = s ∧ ∀ tk', R (.ok (.ret (.bool true))) { s with toks := tk' }) ?_ ⟨rfl, fun tk' => ?_⟩
  · intro prog w A R s' hs
    obtain ⟨rfl, hs⟩ := hs
    exact issubclass_outer (sub_tuple rfl ho fun tk' => hs tk')
  · exact (cv_end ar rfl (Kt.tok _))
theorem c_type_str {x : Str} : CallV G n t (.type "type") [.str x] (.raw (.type "str")) := fun A mu s vals E rm ar rv => by
  obtain ⟨v, rfl, u, rfl⟩ := args1 rv
  exact call_type_of (typeIs_str _ x u) (by decide) (cv_end ar rfl (Kt.refl ..))
end
section
variable {G : Gl} {n : Nat} {F : Scope} {t : Bool} {σ : List V} {pos : Pos}

theorem x_try {body : List Stmt} {h₀ : ExceptHandler} {hs : List ExceptHandler} {Q : Flo → List V → Prop} (h : EX G n F t body σ Q) : EX1 G n F t (.Try body (h₀ :: hs) [] [] pos) σ Q := fun D ow s E O R => by
  refine wpAny_Try_except (wpAny_mono (h D ow s _ O R) (fun fl s1 y => ?_) fun _ _ y => y)
  cases fl with
  | next => exact wpAny_execs_nil y
  | brk => exact y
  | cont => exact y
  | ret v => exact y

theorem x_for_tuple {x : Str} {iter : Expr} {l : List V} {k : Nat} {kd : NameKind} {p : Pos} {body : List Stmt} {Q : Flo → List V → Prop} (I : Nat → List V → Prop) (hk : idx F x = some (k, kd)) (hkd : (kd == .local || kd == .cell) = true)
    (hi : EP G n F t iter σ (.tuple l)) (hs : ∀ env v, foldedSetIterable iter env v = pure v) (h0 : I 0 σ)
    (step : ∀ i v σ', l[i]? = some v → I i σ' → k < σ'.length ∧ EX G n F t body (σ'.set k v) (Turn (I (i + 1)) Q)) (done : ∀ σ', I l.length σ' → Q .next σ') : EX1 G n F t (.For (.Name x p) iter body [] pos) σ Q := fun D ow s E O R => by
  refine wpAny_For (hi.go O R fun val s1 r1 K1 R1 => ?_) (hs D.env)
  obtain ⟨a, items, rfl, na, hp, hr⟩ := r1
  have hlen := hr.length
  have hp' : s1.heap.IsTuple a items.toArray := hp
  refine wpAny_pyIter_tuple hp' ?_
  obtain ⟨q0, ha, _⟩ := id hp
  have hne : a ≠ s1.heap.objs.size := Nat.ne_of_lt (Heap.lt_size ha)
  have W := Walks.tuple (prog := G.prog) (w := G.w) O.room.2.2 s1.heap.objs.size a hne items.toArray
  have fin := wp_forW (Q := Q) (body := body) (p := p) (RE := fun e s' => cameBackBy (model G.prog G.w) D.A D.env E e s') (s₂ := { s1 with heap := s1.heap.push { cls := .type "tuple_iterator", data := .fields #[.ref a, .int 0 0] } })
    O R1 (Kt.pushed _) (Nat.le_refl _) W ⟨⟨_, Heap.get?_push_size _ rfl, rfl, rfl⟩, IsTup.mono hp' fun o e => Heap.get?_push_of_some _ e⟩
    (fun b hb => by rw [List.mem_singleton.mp hb]; exact fresh_none _) (fun b hb => by
      rcases List.mem_cons.mp hb with h | h
      · exact .inl (by rw [h]; exact List.mem_singleton.mpr rfl)
      · exact .inr (by rw [List.mem_singleton.mp h]; exact ⟨na, _, ha⟩))
    (fun i h st b hb => by rw [List.mem_singleton.mp hb]; obtain ⟨o, e, _⟩ := st.1; exact ⟨o, e⟩) hk hkd (fun i => (l[i]?).getD .unb)
    (fun i v hi' hv => by
      have hv' : items[i]? = some v := by simpa using hv
      obtain ⟨w, e1, e2⟩ := hr.getV hv'
      rw [e1]; exact e2) I h0
    (fun i σ' hi' hI => by
      have hi'' : i < l.length := by rw [List.size_toArray, hlen] at hi'; exact hi'
      have e : l[i]? = some l[i] := List.getElem?_eq_getElem hi''
      have := step i _ σ' e hI
      rw [e]
      exact ⟨this.1, this.2.mono fun f σ'' h => by cases f <;> exact h⟩)
    (fun σ' hI => done σ' (by rw [List.size_toArray, hlen] at hI; exact hI)) (fun v => rfl)
  exact codeAny_mono fin fun r s' h => by
    cases r with
    | ok f => exact XPost.trans O R1 (KX.of_kt K1) (OwG.refl _ _) h
    | error e => exact h
end
theorem run_list {α : Type} (l : List α) (a k : Nat) : ((List.range k).map (a + ·)).filterMap (l[·]?) = (l.drop a).take k := by
  have h := pick_run l.toArray a k
  simpa using h
theorem sl_one {l : List V} {lo hi : Option Int} (a b : Nat) (ha : (sliceBounds lo hi none l.length).1 = a) (hb : (sliceBounds lo hi none l.length).2.1 = b) : sl l lo hi none = (l.drop a).take (b - a) := by
  have hc : (sliceBounds lo hi none l.length).2.2 = 1 := rfl
  unfold sl
  rw [ha, hb, hc, sliceRange_one, run_list]
theorem sl_to {l : List V} {k : Int} (h0 : 0 ≤ k) : sl l none (some k) none = l.take k.toNat := by
  rw [sl_one 0 (min k.toNat l.length) (by simp [sliceBounds]) (by simp [sliceBounds]; omega), List.drop_zero, Nat.sub_zero]
  by_cases h : k.toNat ≤ l.length
  · rw [Nat.min_eq_left h]
  · rw [Nat.min_eq_right (by omega), List.take_of_length_le (Nat.le_refl _), List.take_of_length_le (by omega)]
theorem sl_init {l : List V} : sl l none (some (-1)) none = l.dropLast := by
  rw [sl_one 0 (l.length - 1) (by simp [sliceBounds]) (by simp [sliceBounds]; omega), List.drop_zero, Nat.sub_zero, List.dropLast_eq_take]
theorem sl_mid {l : List V} : sl l (some 1) (some (-1)) none = (l.drop 1).dropLast := by
  rw [sl_one (min 1 l.length) (l.length - 1) (by simp [sliceBounds]; omega) (by simp [sliceBounds]; omega), List.dropLast_eq_take, List.length_drop]
  cases l with
  | nil => rfl
  | cons a l => simp
theorem fm_congr {α β : Type} {f g : α → Option β} : ∀ {l : List α}, (∀ x ∈ l, f x = g x) → l.filterMap f = l.filterMap g
  | [], _ => rfl
  | a :: l, h => by rw [List.filterMap_cons, List.filterMap_cons, h a (.head _), fm_congr fun x hx => h x (.tail _ hx)]
theorem rev_list {α : Type} (l : List α) : ((List.range l.length).map fun k => l.length - 1 - k).filterMap (l[·]?) = l.reverse := by
  apply List.ext_getElem?
  intro i
  rw [List.filterMap_map]
  have e : (List.range l.length).filterMap (((fun x => l[x]?) ∘ fun k => l.length - 1 - k)) = (List.range l.length).filterMap (fun k => l.reverse[k]?) := by
    apply fm_congr
    intro k hk
    have := List.mem_range.mp hk
    rw [Function.comp_apply, List.getElem?_reverse this]
  rw [e]
  have h := run_list l.reverse 0 l.length
  rw [List.filterMap_map] at h
  have e2 : ((fun x => l.reverse[x]?) ∘ fun x => 0 + x) = fun k => l.reverse[k]? := by funext k; simp
  rw [e2, List.drop_zero, List.take_of_length_le (by simp)] at h
  rw [h]
theorem sl_rev {l : List V} : sl l none none (some (-1)) = l.reverse := by
  have ha : (sliceBounds none none (some (-1)) l.length).1 = (l.length : Int) - 1 := rfl
  have hb : (sliceBounds none none (some (-1)) l.length).2.1 = -1 := rfl
  have hc : (sliceBounds none none (some (-1)) l.length).2.2 = -1 := rfl
  unfold sl
  rw [ha, hb, hc, krv_sliceRange, rev_list]

section
variable {G : Gl} {n : Nat} {F : Scope} {t : Bool} {σ : List V} {pos : Pos}
theorem e_slice_to {a : Expr} {hi : Expr} {l : List V} {k : Int} {p : Pos} (ha : EP G n F t a σ (.list l)) (hh : EP G n F false hi σ (.int k)) (h0 : 0 ≤ k) (hz : l.length ≤ 16777216) : EP G n F t (.Subscript a (.Slice none (some hi) none p) pos) σ (.list (l.take k.toNat)) :=
  (f_is (f_slice ha.loan pp_none (pp_some hh) hz) (sl_to h0)).ep
theorem e_slice_init {a : Expr} {hi : Expr} {l : List V} {p : Pos} (ha : EP G n F t a σ (.list l)) (hh : EP G n F false hi σ (.int (-1))) (hz : l.length ≤ 16777216) : EP G n F t (.Subscript a (.Slice none (some hi) none p) pos) σ (.list l.dropLast) :=
  (f_is (f_slice ha.loan pp_none (pp_some hh) hz) sl_init).ep
theorem e_slice_mid {a : Expr} {lo hi : Expr} {l : List V} {p : Pos} (ha : EP G n F t a σ (.list l)) (hl : EP G n F false lo σ (.int 1)) (hh : EP G n F false hi σ (.int (-1))) (hz : l.length ≤ 16777216) : EP G n F t (.Subscript a (.Slice (some lo) (some hi) none p) pos) σ (.list (l.drop 1).dropLast) :=
  (f_is (f_slice ha.loan (pp_some hl) (pp_some hh) hz) sl_mid).ep
theorem e_slice_rev {a : Expr} {st : Expr} {l : List V} {p : Pos} (ha : EP G n F t a σ (.list l)) (hst : EP G n F false st σ (.int (-1))) (hz : l.length ≤ 16777216) : EP G n F t (.Subscript a (.Slice none none (some st) p) pos) σ (.list l.reverse) :=
  (f_is (f_slice_step ha.loan pp_none pp_none hst (by decide) hz) sl_rev).ep
theorem e_list {es : List Expr} {vs : List V} (h : SP G n F t pos es σ vs) (ha : atoms vs = true) (hz : vs.length ≤ 1000) : EP G n F t (.List es pos) σ (.list vs) := (f_list h ha hz).ep
theorem e_last {a : Expr} {b : Expr} {l : List V} {v : V} (hs : Plain1 b) (ha : EP G n F t a σ (.list l)) (hb : EP G n F false b σ (.int (-1))) (hv : l.getLast? = some v) : EP G n F t (.Subscript a b pos) σ v := by
  have hne : l ≠ [] := by intro e; subst e; cases hv
  have hp : 0 < l.length := List.length_pos_iff.mpr hne
  refine e_item_neg hs ha.loan hb (by decide) (by omega) (by decide) ?_
  have e : ((-1 : Int) + l.length).toNat = l.length - 1 := by omega
  rw [e, ← List.getLast?_eq_getElem?]; exact hv
theorem e_first {a : Expr} {b : Expr} {l : List V} {v : V} (hs : Plain1 b) (ha : EP G n F t a σ (.list l)) (hb : EP G n F false b σ (.int 0)) (hv : l.head? = some v) : EP G n F t (.Subscript a b pos) σ v := by
  refine e_item hs ha.loan hb (by decide) (by decide) ?_
  rw [List.head?_eq_getElem?] at hv; exact hv
/-- a step of for over texts -/
theorem x_for_strs {x : Str} {iter : Expr} {ys : List Str} {k : Nat} {kd : NameKind} {p : Pos} {body : List Stmt} {Q : Flo → List V → Prop} (I : Nat → List V → Prop) (hk : idx F x = some (k, kd)) (hkd : (kd == .local || kd == .cell) = true)
    (hi : EP G n F t iter σ (.list (ys.map .str))) (hs : ∀ env v, foldedSetIterable iter env v = pure v) (h0 : I 0 σ)
    (step : ∀ i y σ', ys[i]? = some y → I i σ' → k < σ'.length ∧ EX G n F t body (σ'.set k (.str y)) (Turn (I (i + 1)) Q)) (done : ∀ σ', I ys.length σ' → Q .next σ') : EX1 G n F t (.For (.Name x p) iter body [] pos) σ Q := by
  refine x_for_list I hk hkd hi hs h0 (fun i v σ' hv hI => ?_) (fun σ' hI => done σ' (by rw [List.length_map] at hI; exact hI))
  rw [List.getElem?_map] at hv
  obtain ⟨y, hy, rfl⟩ := Option.map_eq_some_iff.mp hv
  exact step i y σ' hy hI
theorem fold_take {α β : Type} {f : β → α → β} {b : β} {ys : List α} {i : Nat} {y : α} (h : ys[i]? = some y) : (ys.take (i + 1)).foldl f b = f ((ys.take i).foldl f b) y := by
  rw [List.take_add_one, h, Option.toList_some, List.foldl_append]; rfl
end
theorem idxs_nat (a b n : Nat) : Builtin.Str.strSliceIndices (some (a : Int)) (some (b : Int)) 1 n = (List.range (min b n - min a n)).map (min a n + ·) := by
  have e : Builtin.Str.strSliceIndices (some (a : Int)) (some (b : Int)) 1 n = sliceRange ((min a n : Nat) : Int) ((min b n : Nat) : Int) 1 := by
    unfold Builtin.Str.strSliceIndices
    have h1 : ¬ ((a : Int) < 0) := by omega
    have h2 : ¬ ((b : Int) < 0) := by omega
    simp only [h1, h2, if_false, show (1 : Int) > 0 by decide, if_true]
    congr 1 <;> omega
  rw [e, sliceRange_one]
theorem slice_nat (x : Str) (a b : Nat) : Txt.slice x (some (a : Int)) (some (b : Int)) = ⟨((x.cps.toList.drop a).take (b - a)).toArray⟩ := by
  unfold Txt.slice
  rw [idxs_nat]
  have hl : x.length = x.cps.toList.length := by simp [Str.length]
  have e : (((List.range (min b x.length - min a x.length)).map (min a x.length + ·)).filterMap (x.cps[·]?)) = (x.cps.toList.drop a).take (b - a) := by
    have h := pick_run x.cps (min a x.length) (min b x.length - min a x.length)
    refine Eq.trans h ?_
    by_cases ha : a ≤ x.length
    · rw [Nat.min_eq_left ha]
      by_cases hb : b ≤ x.length
      · rw [Nat.min_eq_left hb]
      · rw [Nat.min_eq_right (by omega), List.take_of_length_le (by rw [List.length_drop]; omega), List.take_of_length_le (by rw [List.length_drop]; omega)]
    · rw [List.drop_eq_nil_of_le (by rw [← hl]; omega), List.drop_eq_nil_of_le (by rw [← hl]; omega)]
      simp
  split
  next h =>
    have h' : min b x.length - min a x.length = x.length := by simpa using h
    have q : (x.cps.toList.drop a).take (b - a) = x.cps.toList := by
      by_cases h0 : x.length = 0
      · have : x.cps.toList = [] := List.eq_nil_of_length_eq_zero (by rw [← hl]; exact h0)
        rw [this]; simp
      · have ha : a = 0 := by omega
        subst ha
        rw [List.drop_zero, Nat.sub_zero, List.take_of_length_le (by rw [← hl]; omega)]
    rw [q]
  next h => rw [e]
theorem slice_to (x : Str) (b : Nat) : Txt.slice x none (some (b : Int)) = ⟨(x.cps.toList.take b).toArray⟩ := by
  have e : Txt.slice x none (some (b : Int)) = Txt.slice x (some ((0 : Nat) : Int)) (some (b : Int)) := by unfold Txt.slice; rw [StrLaws.sliceIdx_none_lo]; rfl
  rw [e, slice_nat, List.drop_zero, Nat.sub_zero]
theorem slice_from (x : Str) (a : Nat) : Txt.slice x (some (a : Int)) none = ⟨(x.cps.toList.drop a).toArray⟩ := by
  have e : Txt.slice x (some (a : Int)) none = Txt.slice x (some (a : Int)) (some ((x.length : Nat) : Int)) := by unfold Txt.slice; rw [StrLaws.sliceIdx_none_hi]
  rw [e, slice_nat, List.take_of_length_le (by rw [List.length_drop]; simp [Str.length])]
namespace Fx
theorem lk_app : typeLookup (.type "list") "append" = pure (some (.builtin "list.append")) := by rw [typeLookup_type, builtinLookup_eq_fast]; kernel_rfl
theorem ty_app : typeOf (.builtin "list.append") = pure (.type "method_descriptor") := by show builtinType _ = _; rw [builtinType_eq_fast]; kernel_rfl
theorem slot_mget : Slot "method_descriptor" "__get__" "method_descriptor.__get__" :=
  .of (owner := "method_descriptor") (n := "__get__") (by rw [typeLookup_type, builtinLookup_eq_fast]; kernel_rfl) (by decide +kernel) (by decide +kernel) (by decide +kernel)
    (by first | exact .inl (by decide +kernel) | exact .inr (by decide +kernel)) (by rw [isSubtype_type]; kernel_rfl)
theorem entry_mget : entryFor table "method_descriptor.__get__" = some Builtin.«method_descriptor.__get__» := by first | exact entryFor_of_fast (by kernel_rfl) | exact entryFor_of_tree (by kernel_rfl)
theorem args_mget (a b c : Value) : argsOk "method_descriptor.__get__" ⟨[a, b, c], []⟩ := by unfold argsOk; kernel_rfl
theorem no_set : typeLookup (.type "method_descriptor") "__set__" = pure none := by rw [typeLookup_type, builtinLookup_eq_fast]; kernel_rfl
theorem no_del : typeLookup (.type "method_descriptor") "__delete__" = pure none := by rw [typeLookup_type, builtinLookup_eq_fast]; kernel_rfl
theorem own_app : (".".intercalate ("list.append".cutAt '.').dropLast) = "list" := by decide +kernel
theorem sub_ll : isSubtype (.type "list") (.type (".".intercalate ("list.append".cutAt '.').dropLast)) = pure true := by rw [own_app, isSubtype_type]; kernel_rfl
end Fx
section
variable {prog : Program} {w : World} {A : Around} {E : Value → Shared → Prop} {h : Heap} {g : Array GenState} {d : Drawn} {t : Nat} {os : OsState} {a : Addr} {xs : Array Value} {k : Nat}
theorem app_get {R : Result → Shared → Prop} (hx : h.get? a = some { cls := .type "list", data := .seq xs k })
    (hq : R (.ok (.ret (.ref h.objs.size))) ⟨h.push { cls := .type "builtin_function_or_method", data := .fields #[.builtin "list.append", .ref a] }, g, d, t, os⟩) :
    codeAny (model prog w) A (.call (.builtin "method_descriptor.__get__") ⟨[.builtin "list.append", .ref a, .type "list"], []⟩) R ⟨h, g, d, t, os⟩ := by
  have hT : (⟨h, g, d, t, os⟩ : Shared).TypeIs (.ref a) "list" := ⟨_, hx, rfl⟩
  have hT5 : (⟨h, g, d, t, os⟩ : Shared).TypeIs (.builtin "list.append") "method_descriptor" := Fx.ty_app
  have f8 := Fx.sub_ll
  refine codeAny_call_builtin Fx.slot_mget.plain Fx.entry_mget (Fx.slot_mget.check _ _ _ _ _ _ _ _ hT5 (Fx.args_mget _ _ _) ?_)
  repeat (any_goals (first | assumption | wp_step))
theorem app_entry {tk : Tok} {Q : Fin → Shared → Prop} (hx : h.get? a = some { cls := .type "list", data := .seq xs k })
    (hq : Q (.done (.ret (.ref h.objs.size))) ⟨h.push { cls := .type "builtin_function_or_method", data := .fields #[.builtin "list.append", .ref a] }, g, d, t, os⟩) :
    wpAny (model prog w) A (Builtin.«object.__getattribute__» ⟨[.ref a, .str "append" tk], []⟩) Q E ⟨h, g, d, t, os⟩ := by
  have hT : (⟨h, g, d, t, os⟩ : Shared).TypeIs (.ref a) "list" := ⟨_, hx, rfl⟩
  have hT5 : (⟨h, g, d, t, os⟩ : Shared).TypeIs (.builtin "list.append") "method_descriptor" := Fx.ty_app
  have f4 := Fx.lk_app
  have f5 := Fx.ty_app
  have f6 := Fx.slot_mget.lookup
  have f7 := Fx.no_set
  have f8 := Fx.no_del
  repeat (any_goals (first | assumption | wp_step))
  refine app_get hx ?_
  repeat (any_goals (first | assumption | wp_step))
theorem app_by {tk : Tok} {Q : Value → Shared → Prop} (hx : h.get? a = some { cls := .type "list", data := .seq xs k })
    (hq : Q (.ref h.objs.size) ⟨h.push { cls := .type "builtin_function_or_method", data := .fields #[.builtin "list.append", .ref a] }, g, d, t, os⟩) :
    wpAny (model prog w) A (getAttrBy (.ref a) (.str "append" tk) true true) Q E ⟨h, g, d, t, os⟩ := by
  have hT : (⟨h, g, d, t, os⟩ : Shared).TypeIs (.ref a) "list" := ⟨_, hx, rfl⟩
  have f2 := F.slot_list_getattribute.lookup
  have f3 := F.slot_list_getattribute.bind (.ref a)
  repeat (any_goals (first | assumption | wp_step))
  refine codeAny_call_builtin F.slot_list_getattribute.plain F.entry_list_ga (F.slot_list_getattribute.check _ _ _ _ _ _ _ _ hT (F.args_list_getattribute_2 _ _) (app_entry hx ?_))
  repeat (any_goals (first | assumption | wp_step))
theorem app_attr {Q : Value → Shared → Prop} (hx : h.get? a = some { cls := .type "list", data := .seq xs k })
    (hq : Q (.ref h.objs.size) ⟨h.push { cls := .type "builtin_function_or_method", data := .fields #[.builtin "list.append", .ref a] }, g, d, t + 1, os⟩) :
    wpAny (model prog w) A (getAttr (.ref a) "append" true) Q E ⟨h, g, d, t, os⟩ := by
  unfold getAttr
  exact wpAny_bind (wpAny_mkText (app_by hx hq))
theorem sig_is : (Manifest.signature? "list.append").isSome = true := by kernel_rfl
theorem sig_app (a : Addr) (v : Value) : Bind.checkArgs "list.append" { (Manifest.signature? "list.append").get sig_is with full := s!"{Bind.lastOf "list"}.{Bind.lastOf "list.append"}" } ⟨[.ref a, v], []⟩ = pure () := by first | kernel_rfl | rfl
theorem va_app : Manifest.varargsMethods.contains "list.append" = false := by decide +kernel
theorem sub_lm : isSubtype (.type "list") (.type "module") = pure false := by rw [isSubtype_type]; kernel_rfl
theorem kind_app : builtinKind "list.append" = some .method := by first | decide +kernel | kernel_rfl
theorem app_check {v : Value} {Q : Unit → Shared → Prop} {s : Shared} (ho : s.heap.get? a = some { cls := .type "list", data := .seq xs k }) (hQ : Q () s) : wpAny (model prog w) A (checkBoundCall "list.append" ⟨[.ref a, v], []⟩) Q E s := by
  obtain ⟨h, g, d, t, os⟩ := s
  have hT : (⟨h, g, d, t, os⟩ : Shared).TypeIs (.ref a) "list" := ⟨_, ho, rfl⟩
  have h1 : Manifest.signature? "list.append" = some ((Manifest.signature? "list.append").get sig_is) := (Option.some_get sig_is).symm
  have h2 := sig_app a v
  generalize (Manifest.signature? "list.append").get sig_is = sig at *
  have f1 := sub_lm
  unfold checkBoundCall
  rw [h1]
  dsimp only
  rw [kind_app]
  dsimp only
  rw [if_neg (by decide)]
  refine wpAny_bind ?_
  unfold isInstance
  refine wpAny_bind (wpAny_typeOf hT ?_)
  rw [f1]
  refine wpAny_pure ?_
  rw [va_app, if_neg (by decide)]
  refine wpAny_bind (ks_wpAny_isType_inst ho (fun c => by intro h; cases h) ?_)
  rw [if_neg (by decide)]
  refine wpAny_bind (wpAny_typeOf hT ?_)
  exact wpAny_of_eq (a := ()) h2 hQ
theorem app_call {b : Addr} {v : Value} {Q : Value → Shared → Prop} {s : Shared} (hb : s.heap.get? b = some { cls := .type "builtin_function_or_method", data := .fields #[.builtin "list.append", .ref a] })
    (hl : s.heap.PlainList a xs) (hQ : ∀ h', h'.PlainList a (xs.push v) → Heap.SameBut a s.heap h' → Q .none { s with heap := h' }) (hsz : xs.size ≤ sizeLine) : wpAny (model prog w) A (call (.ref b) [v]) Q E s := by
  obtain ⟨k, ho⟩ := hl
  have hT : s.TypeIs (.ref a) "list" := ⟨_, ho, rfl⟩
  refine wpAny_call (codeAny_of_tree ?_)
  show wpAny _ A.in1 (callAny (.ref b) ⟨[v], []⟩) _ _ s
  simp only [callAny]
  refine wpAny_bind (wpAny_load hb ?_)
  simp only [show (Value.type "builtin_function_or_method" == Value.type "method" || Value.type "builtin_function_or_method" == Value.type "builtin_function_or_method" || Value.type "builtin_function_or_method" == Value.type "method-wrapper") = true by decide, if_true]
  show wpAny _ A.in1 (if (Value.type "builtin_function_or_method" != Value.type "method") = true then (checkBoundCall "list.append" ⟨[.ref a, v], []⟩ >>= fun _ => again (Code.builtin "list.append" ⟨[.ref a, v], []⟩)) else again (Code.call (.builtin "list.append") ⟨[.ref a, v], []⟩)) _ _ s
  rw [if_pos (by decide)]
  refine wpAny_bind (app_check ho ?_)
  refine wpAny_pure ?_
  refine ⟨Code.quiet_builtin _ (by decide +kernel), codeAny_builtin PySem.entry_list_append ?_⟩
  show wpAny _ _ (updateSeq a (·.push v) >>= fun _ => ret .none) _ _ s
  refine wpAny_bind ?_
  refine wpAny_updateSeq ho rfl (wpAny_pure ?_)
  refine hQ _ ⟨k + 1, ?_⟩ (Heap.SameBut.update ..)
  rw [Heap.get?_update_self _ ho (by rw [Obj.mapSeq_push_plain]; rfl), Obj.mapSeq_push_plain]
end
section
variable {G : Gl} {n : Nat} {F : Scope} {t : Bool} {σ : List V} {pos : Pos}
theorem x_assign_bound {x y : Str} {kx ky : Nat} {kdx kdy : NameKind} {l : List V} {p q apos : Pos} {Q : Flo → List V → Prop} (hx : idx F x = some (kx, kdx)) (hdx : (kdx == .local || kdx == .cell) = true) (hy : idx F y = some (ky, kdy)) (hdy : (kdy == .local || kdy == .cell) = true)
    (hv : σ[ky]? = some (.own l)) (hd : (y == ("__debug__" : Str)) = false) (hb : ∀ env whole, attributeBase (.Name y q) "append" env whole = whole) (hl : kx < σ.length)
    (hsw : ∀ env : Env, env.scope = F → swapsWith (.Attribute (.Name y q) "append" apos) (some (.Name x p)) pos.line env = pure false) (h : Q .next (σ.set kx (.bound ky))) :
    EX1 G n F t (.Assign [.Name x p] (.Attribute (.Name y q) "append" apos) pos) σ Q := fun D ow s E O R => by
  refine wpAny_Assign_Name ?_ (hsw _ O.scope)
  rw [arm_eval_Attribute, hb]
  refine wpAny_bind (wpAny_Name (wp_name O R hy hdy hv (by intro e; cases e) fun val r => ?_) hd)
  obtain ⟨a, items, rfl, hao, hp, hr⟩ := r
  obtain ⟨k0, e0⟩ := id hp
  refine wpAny_bind (wpAny_standAt (wpAny_bind (wpAny_holding ?_)))
  obtain ⟨hh, g, d, tk, os⟩ := s
  refine app_attr e0 ?_
  refine wpAny_bind (wpAny_letTemporaryGo (wpAny_pure ?_))
  have K1 : Kt G t ⟨hh, g, d, tk, os⟩ ⟨hh.push { cls := .type "builtin_function_or_method", data := .fields #[.builtin "list.append", .ref a] }, g, d, tk + 1, os⟩ := Kt.push _ _
  have R1 := R.kt O K1 (Nat.le_succ _) (Gl.tabKt R.tab fun _ _ e => Heap.get?_push_of_some _ e)
  exact wp_store O R1 hx hdx hl (v := .bound ky) ⟨_, a, rfl, hao, not_bad_of_none O R (fresh_none hh), Heap.get?_push_size _ rfl⟩ fun s2 R2 K2 => ⟨.next, _, ow, trivial, R2, (KX.of_kt K1).trans K2.weak (OwG.refl _ _), (OwG.refl _ _), h⟩
theorem callWith_app {A : Around} {M : Model} {E : Value → Shared → Prop} {s : Shared} {pos : Pos} {u a : Addr} {args : List (Bool × Sem Value)} {Q : Value → Shared → Prop} (hplain : args.any (·.1) = false)
    (h : wpAny M A (evalArgs (.ref u) true args []) (fun x s₁ => s₁.heap.get? u = some { cls := .type "builtin_function_or_method", data := .fields #[.builtin "list.append", .ref a] } ∧ wpAny M A (call (.ref u) x.pos x.kw) Q E s₁) E s) : wpAny M A (callWith pos (.ref u) [] args []) Q E s := by
  unfold callWith
  refine wpAny_bind (wpAny_holding (wpAny_mono h (fun x s₁ h₁ => wpAny_bind (wpAny_standAt ?_)) fun _ _ x => x))
  obtain ⟨ho, hcall⟩ := h₁
  simp only [hplain, List.any_nil, Bool.or_false]
  refine wpAny_bind (m := keeperOf (.ref u)) ?_
  unfold keeperOf
  refine wpAny_bind (wpAny_load ho ?_)
  simp only [show (Value.type "builtin_function_or_method" != Value.type "method") = true by decide, show (Value.type "builtin_function_or_method" == Value.type "builtin_function_or_method" || Value.type "builtin_function_or_method" == Value.type "method-wrapper") = true by decide, if_true]
  refine wpAny_pure ?_
  exact wpAny_bind (wpAny_mono hcall (fun r s₂ hr => wpAny_bind (wpAny_holding (wpAny_point (wpAny_pure hr)))) fun _ _ x => x)
theorem own_at {D : Dyn} {ow : Nat → Option Addr} {s : Shared} {j : Nat} {y : Str} {kd : NameKind} {l : List V} (O : D.Ok G n F) (R : Rel G D ow σ s) (hy : idx F y = some (j, kd)) (hkd : (kd == .local || kd == .cell) = true) (hv : σ[j]? = some (.own l)) :
    ∃ a items, ow j = some a ∧ s.heap.PlainList a (List.toArray items) ∧ Reps l items := by
  have hn := (idx_at hy).1
  rw [← O.scope] at hn
  cases kd with
  | «local» =>
    obtain ⟨m, _, h⟩ := R.ns
    obtain ⟨val, _, a, items, _, e, p, q⟩ := h j y _ hn hv (by intro e; cases e)
    exact ⟨a, items, e, p, q⟩
  | cell =>
    obtain ⟨c, vo, _, _, h⟩ := R.cells j y hn
    obtain ⟨val, _, a, items, _, e, p, q⟩ := h _ hv (by intro e; cases e)
    exact ⟨a, items, e, p, q⟩
  | _ => cases hkd
theorem x_add {x y : Str} {e : Expr} {k j : Nat} {kd kdy : NameKind} {l : List V} {v : V} {p cpos : Pos} {Q : Flo → List V → Prop} (hy : idx F y = some (j, kdy)) (hky : (kdy == .local || kdy == .cell) = true) (hk : idx F x = some (k, kd)) (hkd : (kd == .local || kd == .cell) = true) (hb : σ[k]? = some (.bound j)) (hv : σ[j]? = some (.own l)) (hd : (x == ("__debug__" : Str)) = false)
    (hx : ∀ as, eval (.Call (.Name x p) as [] cpos) = fun env => (do callWith cpos (← eval (.Name x p) env) [] (backTo cpos (starEach as env)) (backToKw cpos (keywordEach [] env))))
    (he : EP G n F false e σ v) (ha : atoms [v] = true) (hst : ∀ env, starEach [e] env = [(false, eval e env)]) (hz : l.length ≤ 16777216) (hint : ∀ env : Env, env.scope = F → interactive env = false)
    (h : Q .next (σ.set j (.own (l ++ [v])))) : EX1 G n F t (.Expr (.Call (.Name x p) [e] [] cpos) pos) σ Q := fun D ow s E O R => by
  refine wpAny_Expr_any ?_ (hint _ O.scope) rfl
  rw [hx]
  refine wpAny_bind (wpAny_Name (wp_name O R hk hkd hb (by intro e; cases e) fun val r => ?_) hd)
  obtain ⟨q, a, rfl, hao, hnb, hq⟩ := r
  rw [hst]
  refine callWith_app (a := a) rfl (evalArgs_plain (Q := fun x s₁ => s₁.heap.get? q = some { cls := .type "builtin_function_or_method", data := .fields #[.builtin "list.append", .ref a] } ∧ wpAny (model G.prog G.w) D.A (call (.ref q) x.pos x.kw) (fun _ => XPost G t D ow s Q Flow.next) E s₁) (spliced_cons (he.go O R fun val s1 rv K1 R1 => spliced_nil ?_)))
  have hq1 := K1.strict _ _ hq
  refine ⟨hq1, ?_⟩
  obtain ⟨a', items, hao', hp1, hr⟩ := own_at O R1 hy hky hv
  rw [hao] at hao'; cases hao'
  refine app_call hq1 hp1 (fun h' hl hsb => ?_) (by rw [sizeLine_eq, List.size_toArray, hr.length]; exact hz)
  have rv' := atom_of rv ha
  exact ⟨.next, _, ow, trivial, own_push O R1 hv hao hr rv' hl hsb, ((KX.of_kt K1).weak).trans (kx_own hao hsb) (OwG.refl _ _), OwG.refl _ _, h⟩
end
section
variable {G : Gl} {n : Nat} {F : Scope} {t : Bool} {σ : List V} {pos : Pos}
/-- x.replace(y, z) with two constants -/
theorem e_replace {o : Expr} {apos p1 p2 : Pos} {k1 k2 : Nat} {x y z : Str} (ty : typeOf (.builtin "str.replace") = pure (.type "method_descriptor"))
    (hb : ∀ env whole, attributeBase o "replace" env whole = whole) (hfew : ∀ env, ((backTo pos (starEach [.Constant (.str y) k1 p1, .Constant (.str z) k2 p2] env)).all (fun x => !x.1) && (backToKw pos (keywordEach [] env)).all (fun x => x.1.isSome)
      && decide ([Expr.Constant (.str y) k1 p1, .Constant (.str z) k2 p2].length + ([] : List Keyword).length + (if ([] : List Keyword).isEmpty then 0 else 1) < 30)) = true) (hline : (apos.endLine == pos.line) = true)
    (ht0 : 0 < G.t0) (hyz : (y == z) = false) (hx : x.length ≤ 1048576) (hz : z.length ≤ 14)
    (ho : EP G n F t o σ (.str x)) : EP G n F t (.Call (.Attribute o "replace" apos) [.Constant (.str y) k1 p1, .Constant (.str z) k2 p2] [] pos) σ (.str (Txt.replace x y z)) := fun D ow s E O R => by
  refine wpAny_Call_method_lateS (hb _ _) (hfew _) hline (ho.go O R fun ov s1 ro K1 R1 => ?_)
  obtain ⟨t1, rfl⟩ := ro
  refine ⟨"str", "str.replace", PySem.F.plainAttrs_str, PySem.F.slot_str_replace, ty, typeIs_str _ _ _, (fun _ e => nomatch e), ?_⟩
  refine callWith_builtin rfl (wp_evalArgs rfl ?_)
  show wpAny _ _ (spliced [(false, eval (.Constant (.str y) k1 p1) D.env), (false, eval (.Constant (.str z) k2 p2) D.env)]) _ _ _
  refine spliced_cons (wpAny_Constant_str (spliced_cons (wpAny_Constant_str (spliced_nil ?_))))
  have h0 := Nat.lt_of_lt_of_le ht0 R1.toks
  exact SC.replaceW (u := s1.toks) (v := s1.toks + 1) (Nat.pos_iff_ne_zero.mp h0) (Nat.succ_ne_zero _) (Nat.ne_of_lt (Nat.lt_succ_self _)) hyz hx hz fun t' k => ⟨⟨t', rfl⟩, K1.trans (Kt.tok _), R1.tab⟩
end
section
variable {G : Gl} {n : Nat} {F : Scope} {t : Bool} {σ : List V} {pos : Pos}
theorem x_assign_ref {x : Str} {e : Expr} {k : Nat} {kd : NameKind} {l : List V} {p : Pos} {Q : Flo → List V → Prop} (hk : idx F x = some (k, kd)) (hkd : (kd == .local || kd == .cell) = true) (he : EF G n F t e σ l) (hl : k < σ.length)
    (hsw : ∀ env : Env, env.scope = F → swapsWith e (some (.Name x p)) pos.line env = pure false) (h : ∀ a : Addr, Q .next (σ.set k (.raw (.ref a)))) : EX1 G n F t (.Assign [.Name x p] e pos) σ Q := fun D ow s E O R => by
  refine wpAny_Assign_Name (he.go O R fun a items s1 ha hp hr K1 R1 => ?_) (hsw _ O.scope)
  exact wp_store O R1 hk hkd hl (v := .raw (.ref a)) rfl fun s2 R2 K2 => ⟨.next, _, ow, trivial, R2, (KX.of_kt K1).trans K2.weak (OwG.refl _ _), (OwG.refl _ _), h a⟩
end
namespace Fx
theorem mro_obj : mroOf (.type "object") = pure [.type "object"] := by rw [mroOf_type]; kernel_rfl
theorem lk_onew : typeLookup (.type "object") "__new__" = pure (some (.builtin "object.__new__")) := by rw [typeLookup_type, builtinLookup_eq_fast]; kernel_rfl
theorem called_obj : TypeCalled "object" "object.__new__" "object.__init__" :=
  ⟨by decide +kernel, by decide +kernel, ⟨_, _, mro_obj⟩, madeBy_type mro_obj lk_onew (by decide +kernel), by decide +kernel, by rw [isSubtype_type]; kernel_rfl, PySem.F.slot_object_init⟩
theorem tcall_obj : checkTypeCall "object" ⟨[], []⟩ = pure () := by kernel_rfl
theorem plain_onew : plainId "object.__new__" = true := by decide +kernel
theorem ncall_obj : checkBuiltinCall "object.__new__" ⟨[.type "object"], []⟩ = pure () := by kernel_rfl
theorem made_obj : Bind.madeHere "object.__new__" (.type "object") = pure () := by kernel_rfl
theorem args_oinit (a : Value) : argsOk "object.__init__" ⟨[a], []⟩ := by unfold argsOk; kernel_rfl
end Fx
section
variable {prog : Program} {w : World} {A : Around} {E : Value → Shared → Prop} {s : Shared}
theorem obj_call {Q : Value → Shared → Prop} (hq : Q (.ref s.heap.objs.size) { s with heap := s.heap.push { cls := .type "object", data := .plain } }) : wpAny (model prog w) A (call (.type "object") []) Q E s := by
  refine callType_codes (Q₁ := fun obj s₁ => obj = .ref s.heap.objs.size ∧ s₁ = { s with heap := s.heap.push { cls := .type "object", data := .plain } }) Fx.called_obj Fx.tcall_obj PySem.F.entry_object_init ?_ fun obj s₁ h₁ => ?_
  · refine codeAny_of_tree ?_
    show wpAny _ A.in1.in1 (do checkBuiltinCall "object.__new__" ⟨[.type "object"], []⟩; again (.builtin "object.__new__" ⟨[.type "object"], []⟩)) _ _ s
    refine wpAny_bind (wpAny_of_eq Fx.ncall_obj (wpAny_pure ⟨plainId_quiet Fx.plain_onew _, codeAny_builtin PySem.F.entry_object_new ?_⟩))
    have h1 := Fx.made_obj
    unfold Builtin.«object.__new__»
    obtain ⟨hp, g, d, tk, os⟩ := s
    repeat (any_goals (first | assumption | wp_step))
    exact ⟨rfl, rfl⟩
  · obtain ⟨rfl, rfl⟩ := h₁
    have hS : (s.heap.push { cls := .type "object", data := .plain }).get? s.heap.objs.size = some { cls := .type "object", data := .plain } := Heap.get?_push_size _ rfl
    refine ⟨⟨_, hS, rfl⟩, Fx.args_oinit _, ?_⟩
    show wpAny _ _ (ret .none) _ _ _
    exact wpAny_pure ⟨rfl, hq⟩
end
section
variable {G : Gl} {n : Nat} {F : Scope} {t : Bool} {σ : List V} {pos : Pos}
/-- x = object() -/
theorem x_assign_object {x : Str} {k : Nat} {kd : NameKind} {p cp np : Pos} {Q : Flo → List V → Prop} (hk : idx F x = some (k, kd)) (hkd : (kd == .local || kd == .cell) = true) (ho : F.names.lookup ("object" : Str) = some .globalImplicit) (hg : G.mg "object" = none) (hl : k < σ.length)
    (hx : ∀ as, eval (.Call (.Name "object" np) as [] cp) = fun env => (do callWith cp (← eval (.Name "object" np) env) [] (backTo cp (starEach as env)) (backToKw cp (keywordEach [] env))))
    (hsw : ∀ env : Env, env.scope = F → swapsWith (.Call (.Name "object" np) [] [] cp) (some (.Name x p)) pos.line env = pure false) (h : ∀ a : Addr, Q .next (σ.set k (.raw (.ref a)))) :
    EX1 G n F t (.Assign [.Name x p] (.Call (.Name "object" np) [] [] cp) pos) σ Q := fun D ow s E O R => by
  refine wpAny_Assign_Name ?_ (hsw _ O.scope)
  rw [hx]
  refine wpAny_bind ((e_builtin ho hg bb_object nn_object d_object (t := t)).go O R fun f s1 rf K1 R1 => ?_)
  have rf' : f = .type "object" := rf
  subst rf'
  refine PySem.callWith_type rfl (wp_evalArgs rfl (spliced_nil ?_))
  have K2 : Kt G t s1 { s1 with heap := s1.heap.push { cls := .type "object", data := .plain } } := Kt.push _ _
  have R2 := R1.kt O K2 (Nat.le_refl _) (Gl.tabKt R1.tab fun _ _ e => Heap.get?_push_of_some _ e)
  exact obj_call (wp_store O R2 hk hkd hl (v := .raw (.ref s1.heap.objs.size)) rfl fun s2 R3 K3 => ⟨.next, _, ow, trivial, R3, (KX.of_kt (K1.trans K2)).trans K3.weak (OwG.refl _ _), (OwG.refl _ _), h _⟩)
end
section
variable {prog : Program} {w : World} {A : Around} {E : Value → Shared → Prop} {s : Shared} {d : Addr} {f : Int → Option Value} {c : Nat}
theorem tab_hit {x : Str} {t : Tok} {Q : Builtin.Str.Mapped → Shared → Prop} (hm : s.heap.MapOf (intKind prog w) d f) (hv : f c = some (.str x t)) (h : ∀ tk, Q (.text x) { s with toks := tk }) : wpAny (model prog w) A (Builtin.Str.tableLookup (.ref d) c) Q E s := by
  unfold Builtin.Str.tableLookup
  refine wpAny_bind (wpAny_attempt ?_)
  refine wpAny_bind (wpAny_mkInt (wpAny_getItem_of (intKind_is prog w c _) hm hv ?_))
  refine wpAny_bind (wpAny_of_eq (a := none) (by kernel_rfl) ?_)
  refine wpAny_bind (wpAny_of_eq (a := some x) (by kernel_rfl) ?_)
  exact wpAny_pure (h _)
theorem tab_miss {Q : Builtin.Str.Mapped → Shared → Prop} (hd : (d == sysModules) = false) (hh : A.handled = none) (hm : s.heap.MapOf (intKind prog w) d f) (hv : f c = none) (h : ∀ h' tk, (∀ b o, s.heap.get? b = some o → h'.get? b = some o) → Q .keep { s with heap := h', toks := tk }) : wpAny (model prog w) A (Builtin.Str.tableLookup (.ref d) c) Q E s := by
  unfold Builtin.Str.tableLookup
  refine wpAny_bind (wpAny_attempt ?_)
  refine wpAny_bind (wpAny_mkInt (wpAny_getItem_missing_of (s := { s with toks := s.toks + 1 }) (intKind_is prog w c _) hd hh hm hv fun h' e he => ?_))
  have ho := he.of
  obtain ⟨ob, vs, h1, h2, _⟩ := ho.there
  show wpAny _ _ (isInstance (.ref e) (.type "LookupError") >>= _) _ _ _
  unfold isInstance
  refine wpAny_bind (wpAny_bind (wpAny_typeOf (T := "KeyError") ⟨ob, h1, h2⟩ ?_))
  refine wpAny_of_eq (a := true) (by rw [isSubtype_type]; kernel_rfl) ?_
  exact wpAny_pure (M := model prog w) (E := E) (h h' _ ho.keeps)
end
section
variable {prog : Program} {w : World} {A : Around} {E : Value → Shared → Prop} {s : Shared} {d : Addr} {f : Int → Option Value}
noncomputable def esc1 (f : Int → Option Value) (c : Nat) : Str := match f c with
  | some (.str v _) => v
  | _ => ⟨#[c]⟩
noncomputable def TrInv (f : Int → Option Value) (s : Shared) (done : List Nat) (st : List Str × Nat × Bool × List (Nat × Option Nat) × Bool) (s' : Shared) : Prop :=
  st.1 = (done.map (esc1 f)).reverse ∧ st.2.1 = ((done.map (esc1 f)).map (·.length)).sum ∧ (∀ c a, st.2.2.2.1.lookup c = some a → a = some c ∧ f c = none) ∧ st.2.2.2.2 = false ∧ ∃ h' tk, s' = { s with heap := h', toks := tk } ∧ ∀ b o, s.heap.get? b = some o → h'.get? b = some o
theorem loop_list {M : Model} {A : Around} {E : Value → Shared → Prop} {β : Type} {B : Nat → β → Sem (ForInStep β)} {I : List Nat → β → Shared → Prop} {Q : β → Shared → Prop} {L : List Nat}
    (hs : ∀ c done rest st s, done ++ c :: rest = L → I done st s → wpAny M A (B c st) (fun r s' => ∃ st', r = .yield st' ∧ I (done ++ [c]) st' s') E s) (hQ : ∀ st s, I L st s → Q st s) :
    ∀ (l done : List Nat) (st : β) (s : Shared), done ++ l = L → I done st s → wpAny M A (forIn l st B) Q E s
  | [], done, st, s, hL, hI => by
    rw [List.forIn_nil]
    rw [List.append_nil] at hL
    exact wpAny_pure (hQ st s (hL ▸ hI))
  | c :: l, done, st, s, hL, hI => by
    rw [List.forIn_cons]
    refine wpAny_bind (wpAny_mono (hs c done l st s hL hI) (fun r s' h => ?_) fun _ _ x => x)
    obtain ⟨st', rfl, hI'⟩ := h
    exact loop_list hs hQ l (done ++ [c]) st' s' (by rw [List.append_assoc]; exact hL) hI'
theorem tr_run {x : Str} {t : Tok} {Q : Fin → Shared → Prop} (hx : (x.length == 0) = false) (hd : (d == sysModules) = false) (hh : A.handled = none) (hm : ∀ s' : Shared, (∀ b o, s.heap.get? b = some o → s'.heap.get? b = some o) → s'.heap.MapOf (intKind prog w) d f)
    (hf : ∀ c ∈ x.cps.toList, f c = none ∨ ∃ v u, f c = some (.str v u) ∧ (v.length == 1) = false) (hlen : ((x.cps.toList.map (esc1 f)).map (·.length)).sum ≤ 100000)
    (hq : ∀ h' tk t', (∀ b o, s.heap.get? b = some o → h'.get? b = some o) → Q (.done (.ret (.str ⟨(x.cps.toList.map (esc1 f)).foldl (fun acc p => acc ++ p.cps) #[]⟩ t'))) { s with heap := h', toks := tk }) :
    wpAny (model prog w) A (Builtin.«str.translate» ⟨[.str x t, .ref d], []⟩) Q E s := by
  unfold Builtin.«str.translate»
  refine wpAny_bind (wpAny_of_eq (a := (.str x t, x, .ref d)) (by first | rfl | kernel_rfl) ?_)
  dsimp only
  rw [if_neg (by rw [hx]; exact Bool.false_ne_true)]
  rw [← Array.forIn_toList]
  refine wpAny_bind (loop_list (I := TrInv f s) (L := x.cps.toList) ?_ ?_ x.cps.toList [] _ _ rfl ⟨rfl, rfl, (fun c a h => by cases h), rfl, s.heap, s.toks, rfl, fun _ _ e => e⟩)
  · rintro c done rest ⟨pieces, total, fast, known, ad⟩ s' hcut ⟨h1, h2, h3, h4, h', tk, rfl, hk⟩
    dsimp only at h1 h2 h3 h4 ⊢
    subst h4
    have hmc := hm { s with heap := h', toks := tk } hk
    have hc : c ∈ x.cps.toList := by rw [← hcut]; simp
    have htl : Builtin.Str.tooLong total = false := by
      have : ((done.map (esc1 f)).map (·.length)).sum ≤ ((x.cps.toList.map (esc1 f)).map (·.length)).sum := by
        rw [← hcut, List.map_append, List.map_append, List.sum_append]; omega
      simp only [Builtin.Str.tooLong, sizeLine_eq, decide_eq_false_iff_not]; omega
    rw [if_neg (by rw [htl]; exact Bool.false_ne_true)]
    have miss : f c = none → esc1 f c = ⟨#[c]⟩ := fun h => by unfold esc1; rw [h]
    have hit : ∀ v u, f c = some (.str v u) → esc1 f c = v := fun v u h => by unfold esc1; rw [h]
    cases fast with
    | true =>
      rw [if_pos rfl]
      cases hl : known.lookup c with
      | some a =>
        obtain ⟨rfl, hm0⟩ := h3 c a hl
        refine wpAny_bind (wpAny_pure ?_)
        refine wpAny_pure ⟨_, rfl, ?_, ?_, h3, rfl, h', tk, rfl, hk⟩
        · dsimp only; rw [List.map_append, List.reverse_append, List.map_singleton, miss hm0, ← h1]; rfl
        · dsimp only; rw [List.map_append, List.map_append, List.sum_append, List.map_singleton, List.map_singleton, miss hm0, ← h2]; rfl
      | none =>
        rcases hf c hc with hn | ⟨v, u, hs, hv⟩
        · refine wpAny_bind (tab_miss hd hh hmc hn fun h'' tk' hk' => ?_)
          refine wpAny_bind (wpAny_pure ?_)
          refine wpAny_pure ⟨_, rfl, ?_, ?_, ?_, rfl, h'', tk', rfl, fun b o e => hk' b o (hk b o e)⟩
          · dsimp only; rw [List.map_append, List.reverse_append, List.map_singleton, miss hn, ← h1]; rfl
          · dsimp only; rw [List.map_append, List.map_append, List.sum_append, List.map_singleton, List.map_singleton, miss hn, ← h2]; rfl
          · intro c' a' hl'
            dsimp only at hl'
            rw [List.lookup_cons] at hl'
            by_cases q : (c' == c) = true
            · rw [q] at hl'
              have q' : c' = c := eq_of_beq q
              subst q'
              exact ⟨(Option.some.inj hl').symm, hn⟩
            · rw [Bool.not_eq_true] at q
              rw [q] at hl'
              exact h3 c' a' hl'
        · refine wpAny_bind (tab_hit hmc hs fun tk' => ?_)
          have hcond : ¬ ((v.length == 1 && v.cps.all fun x => decide (x < 128)) = true) := by rw [hv]; exact Bool.false_ne_true
          dsimp only
          rw [if_neg hcond]
          dsimp only
          refine wpAny_bind (wpAny_pure ?_)
          dsimp only
          rw [if_neg Bool.false_ne_true]
          refine wpAny_bind (m := rule "str.translate.fast-road-left") (wpAny_rule ?_)
          refine wpAny_bind (tab_hit (hm { s with heap := h', toks := tk' } hk) hs fun tk2 => ?_)
          refine wpAny_pure ⟨_, rfl, ?_, ?_, h3, rfl, h', tk2, rfl, hk⟩
          · dsimp only; rw [List.map_append, List.reverse_append, List.map_singleton, hit v u hs, ← h1]; rfl
          · dsimp only; rw [List.map_append, List.map_append, List.sum_append, List.map_singleton, List.map_singleton, hit v u hs, ← h2]; rfl
    | false =>
      rw [if_neg Bool.false_ne_true, if_neg Bool.false_ne_true]
      rcases hf c hc with hn | ⟨v, u, hs, hv⟩
      · refine wpAny_bind (tab_miss hd hh hmc hn fun h'' tk' hk' => ?_)
        refine wpAny_pure ⟨_, rfl, ?_, ?_, h3, rfl, h'', tk', rfl, fun b o e => hk' b o (hk b o e)⟩
        · dsimp only; rw [List.map_append, List.reverse_append, List.map_singleton, miss hn, ← h1]; rfl
        · dsimp only; rw [List.map_append, List.map_append, List.sum_append, List.map_singleton, List.map_singleton, miss hn, ← h2]; rfl
      · refine wpAny_bind (tab_hit hmc hs fun tk2 => ?_)
        refine wpAny_pure ⟨_, rfl, ?_, ?_, h3, rfl, h', tk2, rfl, hk⟩
        · dsimp only; rw [List.map_append, List.reverse_append, List.map_singleton, hit v u hs, ← h1]; rfl
        · dsimp only; rw [List.map_append, List.map_append, List.sum_append, List.map_singleton, List.map_singleton, hit v u hs, ← h2]; rfl
  · rintro ⟨pieces, total, fast, known, ad⟩ s' ⟨h1, h2, _, _, h', tk, rfl, hk⟩
    dsimp only at h1 h2 ⊢
    subst h1 h2
    rw [List.reverse_reverse, if_neg (by simp only [Builtin.Str.tooLong, sizeLine_eq, decide_eq_true_eq]; omega)]
    unfold retStr
    refine wpAny_bind (wpAny_mkStr ?_ ?_)
    · exact wpAny_pure (hq h' _ _ hk)
    · rw [sizeLine_eq]
      have gl : ∀ (l : List Str) (acc : Array Nat), (l.foldl (fun acc p => acc ++ p.cps) acc).size = acc.size + (l.map (·.length)).sum := by
        intro l
        induction l with
        | nil => intro acc; simp
        | cons p l ih =>
          intro acc
          rw [List.foldl_cons, ih, Array.size_append, List.map_cons, List.sum_cons]
          show _ + p.length + _ = _
          omega
      show Array.size _ ≤ _
      rw [gl]
      simp only [List.size_toArray, List.length_nil]
      omega
end
section
variable {G : Gl} {n : Nat} {t : Bool}
noncomputable def trN (f : Int → Option Value) (x : Str) : Str := ⟨(x.cps.toList.map (esc1 f)).foldl (fun acc p => acc ++ p.cps) #[]⟩
theorem c_translate {x : Str} {d : Addr} {f : Int → Option Value} (hx : (x.length == 0) = false) (hd : (d == sysModules) = false)
    (hm : ∀ s' : Shared, (∀ b o, G.g₀.get? b = some o → s'.heap.get? b = some o) → s'.heap.MapOf (intKind G.prog G.w) d f)
    (hf : ∀ c ∈ x.cps.toList, f c = none ∨ ∃ v u, f c = some (.str v u) ∧ (v.length == 1) = false) (hlen : ((x.cps.toList.map (esc1 f)).map (·.length)).sum ≤ 100000) :
    CallV G n t (.builtin "str.translate") [.str x, .raw (.ref d)] (.str (trN f x)) := fun A mu s vals E rm ar rv => by
  obtain ⟨v, w, rfl, ⟨u, rfl⟩, r⟩ := args2 rv
  cases (show w = _ from r)
  refine wpAny_call_entry PySem.F.slot_str_translate (typeIs_str _ x u) PySem.F.entry_str_translate ?_ (PySem.F.args_str_translate_2 _ _)
  refine tr_run hx hd rm.2.2 (fun s' hk => hm s' fun b o e => hk b o (ar.keep b o e)) hf hlen fun h' tk t' hk => ?_
  exact ⟨_, rfl, cv_end ar ⟨t', rfl⟩ (Kt.of_keeps hk)⟩
end
section
variable {G : Gl} {n : Nat} {t : Bool}
theorem c_translate0 {x : Str} {d : Addr} (hx : (x.length == 0) = true) : CallV G n t (.builtin "str.translate") [.str x, .raw (.ref d)] (.str x) := fun A mu s vals E rm ar rv => by
  obtain ⟨v, w, rfl, ⟨u, rfl⟩, r⟩ := args2 rv
  cases (show w = _ from r)
  refine wpAny_call_entry PySem.F.slot_str_translate (typeIs_str _ x u) PySem.F.entry_str_translate ?_ (PySem.F.args_str_translate_2 _ _)
  unfold Builtin.«str.translate»
  refine wpAny_bind (wpAny_of_eq (a := (.str x u, x, .ref d)) (by first | rfl | kernel_rfl) ?_)
  dsimp only
  rw [if_pos hx]
  refine wpAny_bind (m := rule "str.translate.empty") (wpAny_rule ?_)
  refine wpAny_bind (wpAny_of_eq (a := .str x u) (by first | rfl | kernel_rfl) ?_)
  exact wpAny_pure ⟨_, rfl, cv_end ar ⟨u, rfl⟩ (Kt.refl ..)⟩
end
set_option hygiene false
local macro_rules | `(tactic| wtm_at "mty") => `(tactic| with_reducible first | exact ty_find | exact ty_rfind | exact ty_startswith | exact ty_endswith | exact ty_split | exact ty_join | exact ty_rstrip | exact ty_replace | exact ty_translate)
local macro_rules | `(tactic| wtm_at "msl") => `(tactic| with_reducible first | exact PySem.F.slot_str_find | exact PySem.F.slot_str_rfind | exact PySem.F.slot_str_startswith | exact PySem.F.slot_str_endswith | exact PySem.F.slot_str_split | exact PySem.F.slot_str_join | exact PySem.F.slot_str_rstrip | exact PySem.F.slot_str_replace | exact PySem.F.slot_str_translate)
local macro_rules | `(tactic| wtm_at "mrest") => `(tactic| (first | ((with_reducible show SP _ _ _ _ _ _ _ _); (first | with_reducible apply sp_nil | ((with_reducible apply sp_one); (· exact fun _ => rfl)) | ((with_reducible apply sp_cons); (· exact fun _ => rfl)))) | ((with_reducible show PP _ _ _ _ _ _); (with_reducible first | apply pp_none | apply pp_some)) | ((with_reducible show ET _ _ _ _ _ _ _); (first | (with_reducible first | apply t_not | apply t_bool) | ((with_reducible apply t_cmpv); (· rfl)) | ((with_reducible apply t_val); (· exact fun _ _ => rfl)))) | ((with_reducible show TL _ _ _ _ _ _ _ _); (with_reducible first | apply tl_or_nil | apply tl_and_nil | apply tl_or | apply tl_and)) | ((with_reducible show JP _ _ _ _ _ _ _ _); (with_reducible first | apply jp_cons | apply jp_nil)) | ((with_reducible show BinV _ _ _ _); (with_reducible first | apply BinV.addi | apply BinV.adds | apply BinV.subi | apply BinV.modi | apply BinV.divi | apply BinV.muls | apply BinV.addl)) | ((with_reducible show CmpV _ _ _ _); (with_reducible first | apply CmpV.eqi | apply CmpV.nei | apply CmpV.lti | apply CmpV.lei | apply CmpV.gti | apply CmpV.gei | apply CmpV.eqs | apply CmpV.nes | apply CmpV.ins | apply CmpV.notins | apply CmpV.insame | apply CmpV.instr | apply CmpV.isnotself | apply CmpV.isself | apply CmpV.isnotstr)) | ((with_reducible show TruV _ _); (with_reducible first | apply TruV.s | apply TruV.l | apply TruV.o | apply TruV.b)) | ((with_reducible show CallV _ _ _ _ _ _); (first | (with_reducible first | apply c_startswith | apply c_endswith | apply c_rfind | apply c_find3 | apply c_rfind3 | apply c_rstrip | apply c_len_str | apply c_len_loan | apply c_len_list | apply c_range1 | apply c_range2 | apply c_isi_str | apply c_isi_bytes | apply c_join | apply c_join_list) | ((with_reducible apply c_split); (· rfl)))) | ((with_reducible show V.noLoan _ = true); rfl) | ((with_reducible show V.plain _ = true); rfl) | ((with_reducible show atoms _ = true); rfl) | ((with_reducible show List.length _ ≤ 1000); exact Nat.le_of_ble_eq_true rfl) | (with_reducible refine fun (_ : _ = _) => ?_)))
local macro_rules | `(tactic| wtm_at "mix") => `(tactic| with_reducible first | (show idx sc4 _ = _; first | exact i4_pattern) | (show idx sc20 _ = _; first | exact i20_path | exact i20_kind | exact i20_hook | exact i20_given) | (show idx sc24 _ = _; first | exact i24_path) | (show idx sc25 _ = _; first | exact i25_a | exact i25_p | exact i25_sep | exact i25_path | exact i25_b) | (show idx sc26 _ = _; first | exact i26_p | exact i26_sep | exact i26_empty) | (show idx sc27 _ = _; first | exact i27_p | exact i27_sep | exact i27_i) | (show idx sc28 _ = _; first | exact i28_p | exact i28_sep | exact i28_i | exact i28_head) | (show idx sc29 _ = _; first | exact i29_path | exact i29_sep | exact i29_dot | exact i29_dotdot | exact i29__ | exact i29_initial_slashes | exact i29_comps | exact i29_new_comps | exact i29_comp) | (show idx sc32 _ = _; first | exact i32_parts | exact i32_pile | exact i32_part | exact i32_name) | (show idx sc33 _ = _; first | exact i33_parts | exact i33_whole | exact i33_part) | (show idx sc34 _ = _; first | exact i34_straight | exact i34_count | exact i34_heads | exact i34__) | (show idx sc35 _ = _; first | exact i35_straight | exact i35_draws | exact i35_spare | exact i35_place | exact i35_turn | exact i35_mark) | (show idx sc38 _ = _; first | exact i38_text | exact i38_runs | exact i38_state | exact i38_spot) | (show idx sc39 _ = _; first | exact i39_runs | exact i39_place | exact i39_spot | exact i39_run | exact i39_found))
local macro_rules | `(tactic| wtm_at "mgu") => `(tactic| with_reducible first | exact g4__special_chars_map | exact g20__abc_plain_meta | exact g20_getattr | exact g20_TypeError | exact g20__plain_name | exact g20__wall | exact g25_fspath | exact g25__get_sep | exact g25_TypeError | exact g25_AttributeError | exact g25_BytesWarning | exact g25__check_arg_types | exact g26_fspath | exact g27_fspath | exact g27__get_sep | exact g28_fspath | exact g28__get_sep | exact g29_fspath | exact g29_splitroot | exact g33_join | exact g33_normpath | exact g34_dirname | exact g35_dirname)
local macro_rules | `(tactic| wtm_at "mdv") => `(tactic| with_reducible first | exact d_pattern | exact d_path | exact d_kind | exact d_hook | exact d_given | exact d_a | exact d_p | exact d_sep | exact d_b | exact d_empty | exact d_i | exact d_head | exact d_dot | exact d_dotdot | exact d__ | exact d_initial_slashes | exact d_comps | exact d_new_comps | exact d_comp | exact d_parts | exact d_pile | exact d_part | exact d_name | exact d_whole | exact d_straight | exact d_count | exact d_heads | exact d_draws | exact d_spare | exact d_place | exact d_turn | exact d_mark | exact d_text | exact d_runs | exact d_state | exact d_spot | exact d_run | exact d_found)
local macro_rules | `(tactic| wtm_at "mdg") => `(tactic| with_reducible first | exact d__special_chars_map | exact d__abc_plain_meta | exact d_getattr | exact d_TypeError | exact d__plain_name | exact d__wall | exact d_fspath | exact d__get_sep | exact d_AttributeError | exact d_BytesWarning | exact d__check_arg_types | exact d_splitroot | exact d_join | exact d_normpath | exact d_dirname)
local macro_rules | `(tactic| wtm_at "mB") => `(tactic| ((· with_reducible first | exact g4_isinstance | exact g4_str | exact g20_type | exact g20_issubclass | exact g20_str | exact g20_bytes | exact g20_len | exact g24_isinstance | exact g24_bytes | exact g26_isinstance | exact g26_bytes | exact g28_len | exact g29_isinstance | exact g29_bytes | exact g34_range | exact g35_len | exact g38_len | exact g39_len); (· with_reducible first | exact Fns.n_isinstance (by assumption) | exact Fns.n_str (by assumption) | exact Fns.n_type (by assumption) | exact Fns.n_issubclass (by assumption) | exact Fns.n_bytes (by assumption) | exact Fns.n_len (by assumption) | exact Fns.n_range (by assumption)); (· with_reducible first | exact bb_isinstance | exact bb_str | exact bb_type | exact bb_issubclass | exact bb_bytes | exact bb_len | exact bb_range); (· with_reducible first | exact nn_isinstance | exact nn_str | exact nn_type | exact nn_issubclass | exact nn_bytes | exact nn_len | exact nn_range); (· with_reducible first | exact d_isinstance | exact d_str | exact d_type | exact d_issubclass | exact d_bytes | exact d_len | exact d_range)))
local macro_rules | `(tactic| wtm_at "mau") => `(tactic| (first | ((with_reducible show EP _ _ _ _ _ _ _); (first | (with_reducible first | apply e_none | apply e_bool | apply e_int | apply e_str) | ((with_reducible apply e_var); (· wtm_at "mix"); (· rfl); (· rfl); (· rfl); (· wtm_at "mdv")) | ((with_reducible apply e_own); (· wtm_at "mix"); (· rfl); (· rfl); (· wtm_at "mdv")) | with_reducible apply e_bin | ((with_reducible apply e_cmp); (· rfl)) | with_reducible apply e_tuple | ((with_reducible apply e_gcall); (· wtm_at "mgu"); (· wtm_at "mdg"); (· exact fun _ => rfl); (· exact fun _ _ => rfl)) | ((with_reducible apply e_bcall); wtm_at "mB"; (· exact fun _ => rfl); (· exact fun _ _ => rfl)) | ((with_reducible apply e_tcall); wtm_at "mB"; (· exact fun _ => rfl); (· exact fun _ _ => rfl)) | ((with_reducible apply e_methc); (· wtm_at "msl"); (· wtm_at "mty"); (· exact fun _ _ => rfl); (· exact fun _ => rfl); (· rfl); (· exact fun _ _ => rfl)) | ((with_reducible apply e_builtin); wtm_at "mB") | (with_reducible first | apply e_slice_str | apply e_neg | apply e_joined | apply e_fv))) | wtm_at "mrest"))
local macro_rules | `(tactic| wtm_at "mst") => `(tactic| (first | wtm_at "mau" | ((with_reducible show EX _ _ _ _ _ _ _); (first | ((with_reducible apply x_cons_assign); (· wtm_at "mix"); (· rfl); (· exact fun _ _ => rfl)) | (with_reducible first | apply x_cons_return | apply x_cons_if | apply x_nil_seq))) | ((with_reducible show List.set _ _ _ = _); dsimp only [List.set_cons_zero, List.set_cons_succ] <;> rfl) | ((with_reducible show _ < List.length _); exact Nat.le_of_ble_eq_true rfl) | (show retOf _ (Flo.ret _) _; rfl)))
set_option hygiene true
section
variable {G : Gl} {n : Nat} {t : Bool}
theorem s_get_sep (H : Fns G) {x : Str} : CallN G (n + 1) t "_get_sep" [.str x] (.str "/") := by
  refine calln ["path"] 0 H.f24 k24 (by decide +kernel) (fun _ _ _ _ _ vals h => by obtain ⟨v, rfl⟩ := len1 h; rfl) rfl (by simp [V.plain]) ?_
  show EX G n sc24 t bd24 [.str x] _
  refine x_cons (x_if (b := false) ?_ (fun h => nomatch h) (fun _ => ?_))
  · repeat' (first | wtm_at "mau")
  · repeat' (first | wtm_at "mst")
theorem s_fspath (H : Fns G) {x : Str} : CallN G (n + 1) t "fspath" [.str x] (.str x) := by
  refine calln ["path"] 3 H.f20 k20 (by decide +kernel) (fun _ _ _ _ _ vals h => by obtain ⟨v, rfl⟩ := len1 h; rfl) rfl (by simp [V.plain]) ?_
  show EX G n sc20 t bd20 [.str x, .unb, .unb, .unb] _
  refine x_cons (xs_assign (v := .raw (.type "str")) i20_kind rfl ?_ rfl (fun _ _ => rfl) rfl (Nat.le_of_ble_eq_true rfl) ?_)
  · repeat' (first | wtm_at "mau" | (with_reducible apply c_type_str))
  refine x_cons (x_if (b := true) ?_ (fun _ => ?_) (fun h => nomatch h))
  · repeat' (first | wtm_at "mau" | (with_reducible apply c_issub))
  · repeat' (first | wtm_at "mst")
theorem s_basename (H : Fns G) {x : Str} (hx : x.length ≤ 1000000) : CallN G (n + 2) t "basename" [.str x] (.str (Txt.slice x (some (Txt.rfind x "/" + 1)) none)) := by
  refine calln ["p"] 2 H.f27 k27 (by decide +kernel) (fun _ _ _ _ _ vals h => by obtain ⟨v, rfl⟩ := len1 h; rfl) rfl (by simp [V.plain]) ?_
  show EX G (n + 1) sc27 t bd27 [.str x, .unb, .unb] _
  unfold bd27
  refine x_cons (xs_assign (v := .str x) i27_p rfl ?_ rfl (fun _ _ => rfl) rfl (Nat.le_of_ble_eq_true rfl) ?_)
  · repeat' (first | wtm_at "mau" | (with_reducible apply s_fspath H))
  refine x_cons (xs_assign (v := .str "/") i27_sep rfl ?_ rfl (fun _ _ => rfl) rfl (Nat.le_of_ble_eq_true rfl) ?_)
  · repeat' (first | wtm_at "mau" | (with_reducible apply s_get_sep H))
  repeat' (first | wtm_at "mst")
  all_goals omega
end
section
variable {G : Gl} {n : Nat} {t : Bool}
/-- what dirname computes -/
noncomputable def dirN (x : Str) : Str :=
  let h := Txt.slice x none (some (Txt.rfind x "/" + 1))
  if ((h.length != 0) && (h != Txt.mul "/" h.length && true)) = true then Txt.rstripChars h "/" else h
theorem mul_ok {k : Nat} (h : k ≤ 1000000) : MulOk "/" k := by
  have e : (("/" : Str).length) = 1 := by decide +kernel
  refine ⟨by simp; omega, fun h1 h2 => ?_, fun h1 h2 => ?_⟩
  · rw [e]
    have : (1 : Int) ≤ (2 ^ 63 - 1) / (k : Int) := by
      rw [Int.le_ediv_iff_mul_le (by omega)]; omega
    omega
  · simp only [Builtin.Str.tooLong, e, sizeLine_eq, decide_eq_false_iff_not]
    omega
theorem s_splitroot (H : Fns G) {x : Str} (hx : x.length ≤ 1000000) (h1 : Txt.slice x none (some 1) = "/") (h2 : (Txt.slice x (some 1) (some 2) != "/") = true) :
    CallN G (n + 2) t "splitroot" [.str x] (.tuple [.str "", .str "/", .str (Txt.slice x (some 1) none)]) := by
  refine calln ["p"] 2 H.f26 k26 (by decide +kernel) (fun _ _ _ _ _ vals h => by obtain ⟨v, rfl⟩ := len1 h; rfl) rfl (by simp [V.plain]) ?_
  show EX G (n + 1) sc26 t bd26 [.str x, .unb, .unb] _
  unfold bd26
  refine x_cons (xs_assign (v := .str x) i26_p rfl ?_ rfl (fun _ _ => rfl) rfl (Nat.le_of_ble_eq_true rfl) ?_)
  · repeat' (first | wtm_at "mau" | (with_reducible apply s_fspath H))
  refine x_cons (x_if (b := false) ?_ (fun h => nomatch h) (fun _ => ?_))
  · repeat' (first | wtm_at "mau")
  dsimp only [List.set_cons_zero, List.set_cons_succ]
  refine x_cons (xs_assign (v := .str "/") i26_sep rfl e_str rfl (fun _ _ => rfl) (by dsimp only [List.set_cons_zero, List.set_cons_succ] <;> rfl) (Nat.le_of_ble_eq_true rfl) ?_)
  refine x_cons (xs_assign (v := .str "") i26_empty rfl e_str rfl (fun _ _ => rfl) (by dsimp only [List.set_cons_zero, List.set_cons_succ] <;> rfl) (Nat.le_of_ble_eq_true rfl) ?_)
  refine x_nil ?_
  refine x_cons (x_if (b := false) (t_is (b := (Txt.slice x none (some 1) != "/")) ?_ ?_) (fun h => nomatch h) (fun _ => ?_))
  · repeat' (first | wtm_at "mau")
    omega
  · rw [h1]; rfl
  refine x_cons (x_if (b := true) (t_is (b := (Txt.slice x (some 1) (some 2) != "/") || ((Txt.slice x (some 2) (some 3) == "/") || false)) ?_ ?_) (fun _ => ?_) (fun h => nomatch h))
  · repeat' (first | wtm_at "mau")
    all_goals omega
  · rw [h2]; rfl
  · repeat' (first | wtm_at "mst")
    omega
theorem s_dirname (H : Fns G) {x : Str} (hx : x.length ≤ 1000000) : CallN G (n + 2) t "dirname" [.str x] (.str (dirN x)) := by
  refine calln ["p"] 3 H.f28 k28 (by decide +kernel) (fun _ _ _ _ _ vals h => by obtain ⟨v, rfl⟩ := len1 h; rfl) rfl (by simp [V.plain]) ?_
  show EX G (n + 1) sc28 t bd28 [.str x, .unb, .unb, .unb] _
  unfold bd28
  have hs : ∀ o o', (Txt.slice x o o').length ≤ 1000000 := fun o o' => Nat.le_trans (Txt.slice_le x o o') hx
  refine x_cons (xs_assign (v := .str x) i28_p rfl ?_ rfl (fun _ _ => rfl) rfl (Nat.le_of_ble_eq_true rfl) ?_)
  · repeat' (first | wtm_at "mau" | (with_reducible apply s_fspath H))
  refine x_cons (xs_assign (v := .str "/") i28_sep rfl ?_ rfl (fun _ _ => rfl) rfl (Nat.le_of_ble_eq_true rfl) ?_)
  · repeat' (first | wtm_at "mau" | (with_reducible apply s_get_sep H))
  repeat' (first | wtm_at "mst")
  all_goals first
    | exact Nat.le_trans (hs _ _) (by omega)
    | exact mul_ok (hs _ _)
    | omega
    | skip
  all_goals rename_i h
  · show _ = _
    unfold dirN
    rw [if_pos h]
  · show _ = _
    unfold dirN
    rw [if_neg (by rw [h]; exact Bool.false_ne_true)]
end
section
variable {G : Gl} {n : Nat} {t : Bool}
/-- one component more -/
noncomputable def nstep (acc : List Str) (c : Str) : List Str :=
  if c.length = 0 ∨ c = "." then acc
  else if c ≠ ".." ∨ (acc ≠ [] ∧ acc.getLast? = some (".." : Str)) then acc ++ [c]
  else acc.dropLast
theorem nstep_len (acc : List Str) (c : Str) : (nstep acc c).length ≤ acc.length + 1 := by
  unfold nstep
  split
  · omega
  · split
    · simp
    · simp; omega
noncomputable def nfold (cs : List Str) : List Str := cs.foldl nstep []
theorem nfold_len (cs : List Str) : (nfold cs).length ≤ cs.length := by
  have : ∀ (cs acc : List Str), (cs.foldl nstep acc).length ≤ acc.length + cs.length := by
    intro cs
    induction cs with
    | nil => intro acc; simp
    | cons c cs ih =>
      intro acc
      have h1 := ih (nstep acc c)
      have h2 := nstep_len acc c
      rw [List.foldl_cons, List.length_cons]; omega
  have h := this cs []
  rw [List.length_nil, Nat.zero_add] at h
  exact h
theorem last_map {acc : List Str} (h : acc ≠ []) : (acc.map V.str)[((-1 : Int) + (acc.map V.str).length).toNat]? = some (.str (acc.getLast h)) := by
  have hp : 0 < acc.length := List.length_pos_iff.mpr h
  have e : ((-1 : Int) + (acc.map V.str).length).toNat = acc.length - 1 := by rw [List.length_map]; omega
  rw [e, List.getElem?_map, List.getLast_eq_getElem, List.getElem?_eq_getElem (by omega)]; rfl
theorem s_normpath (H : Fns G) {x : Str} (hx : x.length ≤ 100000) (hx0 : (x.length != 0) = true) (h1 : Txt.slice x none (some 1) = "/") (h2 : (Txt.slice x (some 1) (some 2) != "/") = true)
    (hlen : (Txt.split (Txt.slice x (some 1) none) "/").length ≤ 100000)
    (hj : ((nfold (Txt.split (Txt.slice x (some 1) none) "/")).map (·.length)).sum + (nfold (Txt.split (Txt.slice x (some 1) none) "/")).length * ("/" : Str).length ≤ 100000)
    (hj2 : (Txt.join "/" (nfold (Txt.split (Txt.slice x (some 1) none) "/"))).length ≤ 100000) (hsep : ∀ c ∈ Txt.split (Txt.slice x (some 1) none) "/", c.length ≤ 100000) :
    CallN G (n + 3) t "normpath" [.str x] (.str ("/" ++ Txt.join "/" (nfold (Txt.split (Txt.slice x (some 1) none) "/")))) := by
  refine calln ["path"] 8 H.f29 k29 (by decide +kernel) (fun _ _ _ _ _ vals h => by obtain ⟨v, rfl⟩ := len1 h; rfl) rfl (by simp [V.plain]) ?_
  show EX G (n + 2) sc29 t bd29 [.str x, .unb, .unb, .unb, .unb, .unb, .unb, .unb, .unb] _
  unfold bd29
  have e1 : ("/" : Str).length = 1 := by decide +kernel
  have hs1 : (Txt.slice x (some 1) none).length ≤ 100000 := Nat.le_trans (Txt.slice_le x _ _) hx
  refine x_cons (xs_assign (v := .str x) i29_path rfl ?_ rfl (fun _ _ => rfl) rfl (Nat.le_of_ble_eq_true rfl) ?_)
  · repeat' (first | wtm_at "mau" | (with_reducible apply s_fspath H))
  dsimp only [List.set_cons_zero, List.set_cons_succ]
  refine x_cons (x_if (b := false) ?_ (fun h => nomatch h) (fun _ => ?_))
  · repeat' (first | wtm_at "mau")
  refine x_cons (xs_assign (v := .str "/") i29_sep rfl e_str rfl (fun _ _ => rfl) (by dsimp only [List.set_cons_zero, List.set_cons_succ] <;> rfl) (Nat.le_of_ble_eq_true rfl) ?_)
  refine x_cons (xs_assign (v := .str ".") i29_dot rfl e_str rfl (fun _ _ => rfl) (by dsimp only [List.set_cons_zero, List.set_cons_succ] <;> rfl) (Nat.le_of_ble_eq_true rfl) ?_)
  refine x_cons (xs_assign (v := .str "..") i29_dotdot rfl e_str rfl (fun _ _ => rfl) (by dsimp only [List.set_cons_zero, List.set_cons_succ] <;> rfl) (Nat.le_of_ble_eq_true rfl) ?_)
  refine x_nil ?_
  refine x_cons (x_if (b := false) (t_is (b := !(x.length != 0)) ?_ ?_) (fun h => nomatch h) (fun _ => ?_))
  · repeat' (first | wtm_at "mau")
    omega
  · rw [hx0]; rfl
  refine x_nil ?_
  refine x_cons (x_three i29__ rfl i29_initial_slashes rfl i29_path rfl (u := .str "") (v := .str "/") (w := .str (Txt.slice x (some 1) none)) ?_ (Nat.le_of_ble_eq_true rfl) (Nat.le_of_ble_eq_true rfl) (Nat.le_of_ble_eq_true rfl) (fun _ _ => rfl) (fun _ _ => rfl) ?_)
  · repeat' (first | wtm_at "mau" | (with_reducible apply s_splitroot H (Nat.le_trans hx (by omega)) h1 h2))
  dsimp only [List.set_cons_zero, List.set_cons_succ]
  generalize hcs : Txt.split (Txt.slice x (some 1) none) "/" = cs at *
  generalize Txt.slice x (some 1) none = y at *
  refine x_cons (xs_assign (v := .list (cs.map .str)) i29_comps rfl ?_ rfl (fun _ _ => rfl) (by dsimp only [List.set_cons_zero, List.set_cons_succ] <;> rfl) (Nat.le_of_ble_eq_true rfl) ?_)
  · rw [← hcs]
    repeat' (first | wtm_at "mau")
    omega
  refine x_cons (x_assign_own (l := []) i29_new_comps rfl (f_list sp_nil rfl (Nat.zero_le _)) (Nat.le_of_ble_eq_true rfl) (by simp) (fun _ _ => rfl) ?_)
  dsimp only [List.set_cons_zero, List.set_cons_succ]
  refine x_cons (x_for_list (fun i σ' => ∃ w : V, (∀ j, w ≠ .bound j) ∧ σ' = [.str y, .str "/", .str ".", .str "..", .str "", .str "/", .list (cs.map .str), .own (((cs.take i).foldl nstep []).map .str), w]) i29_comp rfl (e_var i29_comps rfl rfl rfl (by decide +kernel)) (fun _ _ => rfl) ⟨.unb, (fun _ h => nomatch h), rfl⟩ ?_ ?_)
  · rintro i v σ' hv ⟨w, hw, rfl⟩
    refine ⟨Nat.le_of_ble_eq_true rfl, ?_⟩
    dsimp only [List.set_cons_zero, List.set_cons_succ]
    rw [List.getElem?_map] at hv
    obtain ⟨c, hc, rfl⟩ := Option.map_eq_some_iff.mp hv
    have hi : i < cs.length := (List.getElem?_eq_some_iff.mp hc).1
    have hcl := hsep c (List.mem_of_getElem? hc)
    have hstep : (cs.take (i + 1)).foldl nstep [] = nstep ((cs.take i).foldl nstep []) c := by
      rw [List.take_add_one, hc, Option.toList_some, List.foldl_append]; rfl
    have hal : ((cs.take i).foldl nstep []).length ≤ 100000 := by
      have := nfold_len (cs.take i)
      unfold nfold at this
      rw [List.length_take] at this; omega
    unfold Turn
    rw [hstep]
    clear hstep
    generalize (cs.take i).foldl nstep [] = acc at *
    have hlm : (acc.map V.str).length ≤ 16777216 := by rw [List.length_map]; omega
    refine x_cons (x_if (b := (!(c.length != 0)) || ((c == ".") || false)) ?_ (fun h => x_cons (x_continue ?_)) (fun h => x_nil ?_))
    · repeat' (first | wtm_at "mau")
      omega
    · refine ⟨.str c, (fun _ h => nomatch h), ?_⟩
      have : nstep acc c = acc := by unfold nstep; rw [if_pos (by simpa using h)]
      rw [this]
    · have hns : nstep acc c = if c ≠ ".." ∨ (acc ≠ [] ∧ acc.getLast? = some (".." : Str)) then acc ++ [c] else acc.dropLast := by
        have : ¬ (c.length = 0 ∨ c = ".") := by simpa using h
        unfold nstep; rw [if_neg this]
      refine x_cons (x_if (b := (c != "..") || (false || ((!(acc.map V.str).isEmpty && ((((acc.getLast?).getD "") == "..") && true)) || false))) ?_ (fun h => ?_) (fun h => ?_))
      · refine t_bool (tl_or ?_ (fun _ => tl_or ?_ (fun _ => tl_or ?_ (fun _ => tl_or_nil))))
        · repeat' (first | wtm_at "mau")
        · refine t_bool (tl_and_miss (t_is (b := !(("/" : Str).length != 0)) ?_ (by rw [e1]; rfl)))
          repeat' (first | wtm_at "mau")
          rw [e1]; omega
        · refine t_bool (tl_and ?_ (fun hne => tl_and ?_ (fun _ => tl_and_nil)))
          · repeat' (first | wtm_at "mau")
            exact hlm
          · have hne' : acc ≠ [] := by intro e; subst e; simp at hne
            refine t_cmpv rfl (e_item_neg (fun _ _ => ⟨_, rfl⟩) (e_own i29_new_comps rfl rfl d_new_comps) (e_is (e_neg e_int) rfl) (by decide) ?_ (by decide) (last_map hne')) (e_var i29_dotdot rfl rfl rfl d_dotdot) ?_
            · rw [List.length_map]
              have := List.length_pos_iff.mpr hne'
              omega
            · rw [List.getLast?_eq_some_getLast hne']
              exact CmpV.eqs _ _
      · refine x_cons (x_append i29_new_comps rfl rfl d_new_comps (v := .str c) (e_var i29_comp rfl rfl rfl d_comp) rfl (fun _ => rfl) rfl hlm (fun _ h => by unfold interactive; rw [h]; rfl) (x_nil (x_nil ⟨.str c, (fun _ h => nomatch h), ?_⟩)))
        dsimp only [List.set_cons_zero, List.set_cons_succ]
        have hc2 : c ≠ ".." ∨ (acc ≠ [] ∧ acc.getLast? = some (".." : Str)) := by
          rw [Bool.or_eq_true] at h
          rcases h with h | h
          · exact .inl (by simpa using h)
          · refine .inr ?_
            have h' : acc ≠ [] ∧ acc.getLast?.getD "" = ".." := by simpa using h
            refine ⟨h'.1, ?_⟩
            have h2 := h'.2
            have h3 := List.getLast?_eq_some_getLast h'.1
            rw [h3] at h2
            rw [h3]
            exact congrArg some h2
        rw [hns, if_pos hc2, List.map_append]; rfl
      · have hc2 : ¬ (c ≠ ".." ∨ (acc ≠ [] ∧ acc.getLast? = some (".." : Str))) := by
          rw [Bool.or_eq_false_iff] at h
          rintro (q | ⟨q1, q2⟩)
          · exact q (by simpa using h.1)
          · have h2 := h.2
            rw [q2] at h2
            simp [q1] at h2
        refine x_cons (x_if (b := !(acc.map V.str).isEmpty) ?_ (fun h => ?_) (fun h => x_nil (x_nil (x_nil ⟨.str c, (fun _ h => nomatch h), ?_⟩))))
        · repeat' (first | wtm_at "mau")
          exact hlm
        · have hne : acc ≠ [] := by intro e; subst e; simp at h
          have hsplit : acc.map V.str = acc.dropLast.map V.str ++ [.str (acc.getLast hne)] := by
            conv => lhs; rw [← List.dropLast_concat_getLast hne]
            rw [List.map_append]; rfl
          rw [hsplit]
          refine x_cons (x_pop i29_new_comps rfl (l := acc.dropLast.map V.str) (v := .str (acc.getLast hne)) rfl d_new_comps rfl (by rw [List.length_map, List.length_dropLast]; omega) (fun _ h => by unfold interactive; rw [h]; rfl) (x_nil (x_nil (x_nil ⟨.str c, (fun _ h => nomatch h), ?_⟩))))
          dsimp only [List.set_cons_zero, List.set_cons_succ]
          rw [hns, if_neg hc2]
        · have hne : acc = [] := by
            cases acc with
            | nil => rfl
            | cons a l => simp at h
          rw [hns, if_neg hc2, hne]; rfl
  · rintro σ' ⟨w, hw, rfl⟩
    rw [List.length_map, List.take_length]
    have hnf : cs.foldl nstep [] = nfold cs := rfl
    rw [hnf]
    generalize nfold cs = res at *
    refine x_freeze (k := 7) (l := res.map V.str) rfl (by simpa using hw 7) ?_
    rw [e1] at hj
    dsimp only [List.set_cons_zero, List.set_cons_succ]
    have hjl : (Txt.join "/" res).length + 1 ≤ 16777216 := by omega
    refine x_cons (xs_assign (v := .list (res.map .str)) i29_comps rfl (e_var i29_new_comps rfl rfl rfl d_new_comps) rfl (fun _ _ => rfl) (by dsimp only [List.set_cons_zero, List.set_cons_succ] <;> rfl) (Nat.le_of_ble_eq_true rfl) ?_)
    refine x_cons (xs_assign (v := .str ("/" ++ Txt.join "/" res)) i29_path rfl ?_ rfl (fun _ _ => rfl) (by dsimp only [List.set_cons_zero, List.set_cons_succ] <;> rfl) (Nat.le_of_ble_eq_true rfl) ?_)
    · repeat' (first | wtm_at "mau")
      · rw [e1]; omega
      · omega
    refine x_cons (x_return (v := .str ("/" ++ Txt.join "/" res)) (e_is (e_or_str (p := "/" ++ Txt.join "/" res) (q := ".") (e_var i29_path rfl rfl rfl d_path) (fun _ => e_var i29_dot rfl rfl rfl d_dot) ?_) ?_) rfl rfl)
    · rw [Str.length_append, e1]; omega
    · rw [if_neg]
      rw [Str.length_append, e1]; omega
end
section
variable {G : Gl} {n : Nat} {t : Bool}
noncomputable def joinN (a b : Str) : Str := if Txt.startswith b "/" || !(a.length != 0) then b else if Txt.endswith a "/" then a ++ b else a ++ ("/" ++ b)
theorem join_bind (qual : Str) (doc pm cdv ct v1 v2 : Value) : bindArgs (fnOf "join" qual pa25 bd25 sc25 .none .none doc pm none cdv ct) ⟨[v1, v2], []⟩ = (newTuple [v2] >>= fun u => pure [(("a" : Str), v1), ("p", u)]) := by rfl
theorem s_join (H : Fns G) {a b : Str} (ha : a.length ≤ 1000000) (hb : b.length ≤ 1000000) : CallN G (n + 2) t "join" [.str a, .str b] (.str (joinN a b)) := by
  obtain ⟨f, hf⟩ := H.f25
  have c : CallV G (n + 2) t (.ref f) [.str a, .str b] (.str (joinN a b)) := by
    refine call_fnv (args := [.str a, .tuple [.str b]]) ["a", "p"] 3 hf rfl (by simp [V.plain]) ?_ (first_of (by decide +kernel) (by decide +kernel)) k25.2.2.2 k25.1 k25.2.1 k25.2.2.1 ?_
    · intro qual doc pm cdv ct A mu s vals E Q rm ar rv hQ
      obtain ⟨v, w, rfl, h1, h2⟩ := args2 rv
      rw [join_bind]
      obtain ⟨u, rfl⟩ := h2
      refine wpAny_bind (wpAny_newTuple (wpAny_pure (hQ _ [v, _] (Kt.push _ _) (Nat.le_refl _) ⟨?_, ?_, trivial⟩)) (by rw [sizeLine_eq]; show 1 ≤ _; omega))
      · exact h1
      · exact ⟨_, [.str b u], rfl, not_mu ar (fresh_none _), ⟨_, Heap.get?_push_size _ rfl, rfl, 0, rfl⟩, ⟨u, rfl⟩, trivial⟩
    show EX G (n + 1) sc25 t bd25 [.str a, .tuple [.str b], .unb, .unb, .unb] _
    unfold bd25
    refine x_cons (xs_assign (v := .str a) i25_a rfl ?_ rfl (fun _ _ => rfl) rfl (Nat.le_of_ble_eq_true rfl) ?_)
    · repeat' (first | wtm_at "mau" | (with_reducible apply s_fspath H))
    refine x_cons (xs_assign (v := .str "/") i25_sep rfl ?_ rfl (fun _ _ => rfl) rfl (Nat.le_of_ble_eq_true rfl) ?_)
    · repeat' (first | wtm_at "mau" | (with_reducible apply s_get_sep H))
    refine x_cons (xs_assign (v := .str a) i25_path rfl ?_ rfl (fun _ _ => rfl) (by dsimp only [List.set_cons_zero, List.set_cons_succ] <;> rfl) (Nat.le_of_ble_eq_true rfl) ?_)
    · repeat' (first | wtm_at "mau")
    refine x_cons (x_try ?_)
    refine x_cons (x_for_tuple (fun i σ' => ∃ x w : V, (i = 0 → x = .str a) ∧ (i = 1 → x = .str (joinN a b)) ∧ i ≤ 1 ∧ σ' = [.str a, .tuple [.str b], .str "/", x, w]) i25_b rfl (e_var i25_p rfl rfl rfl d_p) (fun _ _ => rfl) ⟨_, _, fun _ => rfl, (fun h => absurd h (by decide)), Nat.zero_le _, rfl⟩ ?_ ?_)
    · rintro i v σ' hv ⟨x, w, hx0, _, _, rfl⟩
      refine ⟨Nat.le_of_ble_eq_true rfl, ?_⟩
      have hi : i = 0 := by
        have := (List.getElem?_eq_some_iff.mp hv).1
        simpa using this
      subst hi
      cases hv
      cases hx0 rfl
      dsimp only [List.set_cons_zero, List.set_cons_succ]
      have e1 : ("/" : Str).length = 1 := by decide +kernel
      refine x_cons (xs_assign (v := .str b) i25_b rfl ?_ rfl (fun _ _ => rfl) (by dsimp only [List.set_cons_zero, List.set_cons_succ] <;> rfl) (Nat.le_of_ble_eq_true rfl) ?_)
      · repeat' (first | wtm_at "mau" | (with_reducible apply s_fspath H))
      refine x_cons (x_if (b := (Txt.startswith b "/") || ((!(a.length != 0)) || false)) ?_ (fun h => ?_) (fun h => ?_))
      · repeat' (first | wtm_at "mau")
        omega
      · rw [Bool.or_false] at h
        refine x_cons (xs_assign (v := .str b) i25_path rfl (e_var i25_b rfl rfl rfl d_b) rfl (fun _ _ => rfl) (by dsimp only [List.set_cons_zero, List.set_cons_succ] <;> rfl) (Nat.le_of_ble_eq_true rfl) (x_nil (x_nil ⟨_, _, (fun h => absurd h (by decide)), fun _ => ?_, Nat.le_refl _, rfl⟩)))
        unfold joinN; rw [if_pos h]
      · rw [Bool.or_false] at h
        refine x_cons (x_if (b := Txt.endswith a "/") ?_ (fun h2 => ?_) (fun h2 => ?_))
        · repeat' (first | wtm_at "mau")
        · refine x_cons (x_aug_str i25_path rfl (a := a) rfl (e_var i25_b rfl rfl rfl d_b) (by omega) (x_nil (x_nil (x_nil ⟨_, _, (fun h => absurd h (by decide)), fun _ => ?_, Nat.le_refl _, rfl⟩))))
          unfold joinN; rw [if_neg (by rw [h]; exact Bool.false_ne_true), if_pos h2]
        · refine x_cons (x_aug_str i25_path rfl (a := a) (b := "/" ++ b) rfl ?_ ?_ (x_nil (x_nil (x_nil ⟨_, _, (fun h => absurd h (by decide)), fun _ => ?_, Nat.le_refl _, rfl⟩))))
          · repeat' (first | wtm_at "mau")
            rw [e1]; omega
          · rw [Str.length_append, e1]; omega
          · unfold joinN; rw [if_neg (by rw [h]; exact Bool.false_ne_true), if_neg (by rw [h2]; exact Bool.false_ne_true)]
    · rintro σ' ⟨x, w, _, hx1, _, rfl⟩
      cases hx1 rfl
      refine x_nil ?_
      repeat' (first | wtm_at "mst")
  obtain ⟨⟨oc, od, osl, qual, doc, pm, cdv, ct, ho, _⟩, hg⟩ := hf
  exact ⟨f, _, _, hg, ho, rfl, c⟩
end
section
variable {G : Gl} {n : Nat} {t : Bool}
noncomputable def pstep (pile : List Str) (name : Str) : List Str := if (name == "..") = true then pile.dropLast else if ((name != ".") && ((name != "") && true)) = true then pile ++ [name] else pile
noncomputable def pileN (parts : List Str) : List Str := parts.foldl (fun pile part => (Txt.split part "/").foldl pstep (if (Txt.slice part none (some 1) == "/") = true then [] else pile)) []
theorem pstep_len (pile : List Str) (name : Str) : (pstep pile name).length ≤ pile.length + 1 := by
  unfold pstep; split
  · rw [List.length_dropLast]; omega
  · split
    · simp
    · omega
theorem pfold_len (names : List Str) : ∀ pile : List Str, (names.foldl pstep pile).length ≤ pile.length + names.length := by
  induction names with
  | nil => intro pile; simp
  | cons c cs ih =>
    intro pile
    have h1 := ih (pstep pile c)
    have h2 := pstep_len pile c
    rw [List.foldl_cons, List.length_cons]; omega
theorem pile_len (parts : List Str) (M : Nat) (h : ∀ p ∈ parts, (Txt.split p "/").length ≤ M) : ∀ pile : List Str, (parts.foldl (fun pile part => (Txt.split part "/").foldl pstep (if (Txt.slice part none (some 1) == "/") = true then [] else pile)) pile).length ≤ pile.length + parts.length * M := by
  induction parts with
  | nil => intro pile; simp
  | cons c cs ih =>
    intro pile
    rw [List.foldl_cons, List.length_cons]
    have h1 := ih (fun p hp => h p (.tail _ hp)) ((Txt.split c "/").foldl pstep (if (Txt.slice c none (some 1) == "/") = true then [] else pile))
    have h2 := pfold_len (Txt.split c "/") (if (Txt.slice c none (some 1) == "/") = true then [] else pile)
    have h3 := h c (.head _)
    have h4 : (if (Txt.slice c none (some 1) == "/") = true then ([] : List Str) else pile).length ≤ pile.length := by split <;> simp
    rw [Nat.succ_mul]
    omega
theorem s_pile (H : Fns G) {ps : List Str} (hl : ps.length ≤ 100) (hp : ∀ p ∈ ps, p.length ≤ 1000) (hs : ∀ p ∈ ps, (Txt.split p "/").length ≤ 1000) :
    CallN G (n + 1) t "_law_pile" [.list (ps.map .str)] (.list ((pileN ps).map .str)) := by
  refine calln ["parts"] 3 H.f32 k32 (by decide +kernel) (fun _ _ _ _ _ vals h => by obtain ⟨v, rfl⟩ := len1 h; rfl) rfl (by simp [V.plain]) ?_
  show EX G n sc32 t bd32 [.list (ps.map .str), .unb, .unb, .unb] _
  unfold bd32
  refine x_cons (xs_assign (v := .list []) i32_pile rfl (e_list sp_nil rfl (by decide)) rfl (fun _ _ => rfl) rfl (Nat.le_of_ble_eq_true rfl) ?_)
  refine x_cons (x_for_strs (fun i σ' => ∃ u w : V, σ' = [.list (ps.map .str), .list ((pileN (ps.take i)).map .str), u, w]) i32_part rfl (e_var i32_parts rfl rfl rfl d_parts) (fun _ _ => rfl) ⟨_, _, rfl⟩ ?_ ?_)
  · rintro i y σ' hy ⟨u, w, rfl⟩
    refine ⟨Nat.le_of_ble_eq_true rfl, ?_⟩
    dsimp only [List.set_cons_zero, List.set_cons_succ]
    have hm := List.mem_of_getElem? hy
    have h1 := hp y hm
    have h2 := hs y hm
    have hi : i < ps.length := (List.getElem?_eq_some_iff.mp hy).1
    have hpl : (pileN (ps.take i)).length ≤ 100000 := by
      have := pile_len (ps.take i) 1000 (fun p hp => hs p (List.mem_of_mem_take hp)) []
      rw [List.length_take] at this
      unfold pileN
      have h5 : min i ps.length * 1000 ≤ 100 * 1000 := Nat.mul_le_mul_right _ (by omega)
      simp only [List.length_nil] at this
      omega
    have hstep : pileN (ps.take (i + 1)) = (Txt.split y "/").foldl pstep (if (Txt.slice y none (some 1) == "/") = true then [] else pileN (ps.take i)) := fold_take hy
    unfold Turn
    rw [hstep]
    clear hstep
    generalize pileN (ps.take i) = pile at *
    have tail : ∀ pl : List Str, pl.length ≤ 100000 → EX G n sc32 t (match bd32 with | [_, .For _ _ [_, f] _ _, _] => [f] | _ => []) [.list (ps.map .str), .list (pl.map .str), .str y, w] (fun f σ' => match f with
        | .next | .cont => ∃ u w : V, σ' = [.list (ps.map .str), .list (((Txt.split y "/").foldl pstep pl).map .str), u, w]
        | _ => False) := by
      intro pl hpl2
      refine x_cons (x_for_strs (ys := Txt.split y "/") (fun j σ' => ∃ w : V, σ' = [.list (ps.map .str), .list ((((Txt.split y "/").take j).foldl pstep pl).map .str), .str y, w]) i32_name rfl ?_ (fun _ _ => rfl) ⟨_, rfl⟩ ?_ ?_)
      · repeat' (first | wtm_at "mau")
        omega
      · rintro j c σ' hc ⟨w, rfl⟩
        refine ⟨Nat.le_of_ble_eq_true rfl, ?_⟩
        dsimp only [List.set_cons_zero, List.set_cons_succ]
        have hj : j < (Txt.split y "/").length := (List.getElem?_eq_some_iff.mp hc).1
        have hal : (((Txt.split y "/").take j).foldl pstep pl).length ≤ 101000 := by
          have := pfold_len ((Txt.split y "/").take j) pl
          rw [List.length_take] at this; omega
        unfold Turn
        rw [fold_take hc]
        generalize ((Txt.split y "/").take j).foldl pstep pl = acc at *
        have hlm : (acc.map V.str).length ≤ 16777215 := by rw [List.length_map]; omega
        refine x_cons (x_if (b := c == "..") ?_ (fun h => ?_) (fun h => ?_))
        · repeat' (first | wtm_at "mau")
        · refine x_cons (xs_assign (v := .list (acc.map V.str).dropLast) i32_pile rfl (e_slice_init (e_var i32_pile rfl rfl rfl d_pile) (e_is (e_neg e_int) rfl) (by omega)) rfl (fun _ _ => rfl) (by dsimp only [List.set_cons_zero, List.set_cons_succ] <;> rfl) (Nat.le_of_ble_eq_true rfl) (x_nil (x_nil ⟨.str c, ?_⟩)))
          unfold pstep; rw [if_pos h, List.map_dropLast]
        · refine x_cons (x_if (b := (c != ".") && ((c != "") && true)) ?_ (fun h2 => ?_) (fun h2 => ?_))
          · repeat' (first | wtm_at "mau")
          · refine x_cons (xs_assign (v := .list (acc.map V.str ++ [.str c])) i32_pile rfl (e_bin (e_var i32_pile rfl rfl rfl d_pile) (e_list (sp_one (fun _ => rfl) (e_var i32_name rfl rfl rfl d_name)) rfl (Nat.le_of_ble_eq_true rfl)) (BinV.addl (by rw [List.length_singleton]; omega))) rfl (fun _ _ => rfl) (by dsimp only [List.set_cons_zero, List.set_cons_succ] <;> rfl) (Nat.le_of_ble_eq_true rfl) (x_nil (x_nil (x_nil ⟨.str c, ?_⟩))))
            unfold pstep; rw [if_neg (by rw [h]; exact Bool.false_ne_true), if_pos h2, List.map_append]; rfl
          · refine x_nil (x_nil (x_nil ⟨.str c, ?_⟩))
            unfold pstep; rw [if_neg (by rw [h]; exact Bool.false_ne_true), if_neg (by rw [h2]; exact Bool.false_ne_true)]
      · rintro σ' ⟨w, rfl⟩
        refine x_nil ⟨.str y, w, ?_⟩
        rw [List.take_length]
    refine x_cons (x_if (b := Txt.slice y none (some 1) == "/") ?_ (fun h => ?_) (fun h => ?_))
    · repeat' (first | wtm_at "mau")
      omega
    · refine x_cons (xs_assign (v := .list []) i32_pile rfl (e_list sp_nil rfl (by decide)) rfl (fun _ _ => rfl) (by dsimp only [List.set_cons_zero, List.set_cons_succ] <;> rfl) (Nat.le_of_ble_eq_true rfl) (x_nil ?_))
      rw [if_pos h]
      exact (tail [] (Nat.zero_le _)).mono fun f σ' q => by cases f <;> first | exact q | exact q.elim
    · rw [if_neg (by rw [h]; exact Bool.false_ne_true)]
      exact x_nil ((tail pile hpl).mono fun f σ' q => by cases f <;> first | exact q | exact q.elim)
  · rintro σ' ⟨u, w, rfl⟩
    rw [List.take_length]
    repeat' (first | wtm_at "mst")
end
section
variable {G : Gl} {n : Nat} {t : Bool}
structure NormOk (x : Str) : Prop where
  hx : x.length ≤ 100000
  hx0 : (x.length != 0) = true
  h1 : Txt.slice x none (some 1) = "/"
  h2 : (Txt.slice x (some 1) (some 2) != "/") = true
  hlen : (Txt.split (Txt.slice x (some 1) none) "/").length ≤ 100000
  hj : ((nfold (Txt.split (Txt.slice x (some 1) none) "/")).map (·.length)).sum + (nfold (Txt.split (Txt.slice x (some 1) none) "/")).length * ("/" : Str).length ≤ 100000
  hj2 : (Txt.join "/" (nfold (Txt.split (Txt.slice x (some 1) none) "/"))).length ≤ 100000
  hsep : ∀ c ∈ Txt.split (Txt.slice x (some 1) none) "/", c.length ≤ 100000
noncomputable def normN (x : Str) : Str := "/" ++ Txt.join "/" (nfold (Txt.split (Txt.slice x (some 1) none) "/"))
theorem s_norm (H : Fns G) {x : Str} (h : NormOk x) : CallN G (n + 3) t "normpath" [.str x] (.str (normN x)) := s_normpath H h.hx h.hx0 h.h1 h.h2 h.hlen h.hj h.hj2 h.hsep
noncomputable def wholeN (ps : List Str) : Str := ps.foldl joinN "/"
theorem s_straight (H : Fns G) {ps : List Str} (hp : ∀ p ∈ ps, p.length ≤ 1000) (hw : ∀ i, (wholeN (ps.take i)).length ≤ 100000) (hn : NormOk (wholeN ps)) :
    CallN G (n + 4) t "_law_straight" [.list (ps.map .str)] (.str (normN (wholeN ps))) := by
  refine calln ["parts"] 2 H.f33 k33 (by decide +kernel) (fun _ _ _ _ _ vals h => by obtain ⟨v, rfl⟩ := len1 h; rfl) rfl (by simp [V.plain]) ?_
  show EX G (n + 3) sc33 t bd33 [.list (ps.map .str), .unb, .unb] _
  unfold bd33
  refine x_cons (xs_assign (v := .str "/") i33_whole rfl e_str rfl (fun _ _ => rfl) rfl (Nat.le_of_ble_eq_true rfl) ?_)
  refine x_cons (x_for_strs (fun i σ' => ∃ w : V, σ' = [.list (ps.map .str), .str (wholeN (ps.take i)), w]) i33_part rfl (e_var i33_parts rfl rfl rfl d_parts) (fun _ _ => rfl) ⟨_, rfl⟩ ?_ ?_)
  · rintro i y σ' hy ⟨w, rfl⟩
    refine ⟨Nat.le_of_ble_eq_true rfl, ?_⟩
    dsimp only [List.set_cons_zero, List.set_cons_succ]
    have h1 := hp y (List.mem_of_getElem? hy)
    have h2 := hw i
    refine x_cons (xs_assign (v := .str (joinN (wholeN (ps.take i)) y)) i33_whole rfl ?_ rfl (fun _ _ => rfl) (by dsimp only [List.set_cons_zero, List.set_cons_succ] <;> rfl) (Nat.le_of_ble_eq_true rfl) (x_nil ⟨.str y, ?_⟩))
    · repeat' (first | wtm_at "mau" | (with_reducible apply s_join (n := n + 1) H (by omega) (by omega)))
    · unfold wholeN; rw [fold_take hy]
  · rintro σ' ⟨w, rfl⟩
    rw [List.take_length]
    repeat' (first | wtm_at "mst" | (with_reducible apply s_norm H hn))
noncomputable def dirs (x : Str) : Nat → Str
  | 0 => x
  | i + 1 => dirN (dirs x i)
noncomputable def headsN (x : Str) (k : Nat) : List Str := (List.range (k + 1)).map (dirs x)
theorem s_heads (H : Fns G) {x : Str} {k : Nat} (hk : k ≤ 1000) (hl : ∀ i, i ≤ k → (dirs x i).length ≤ 1000000) :
    CallN G (n + 3) t "_law_heads" [.str x, .int k] (.list ((headsN x k).map .str)) := by
  refine calln ["straight", "count"] 2 H.f34 k34 (by decide +kernel) (fun _ _ _ _ _ vals h => by obtain ⟨v, w, rfl⟩ := len2 h; rfl) rfl (by simp [V.plain]) ?_
  show EX G (n + 2) sc34 t bd34 [.str x, .int k, .unb, .unb] _
  unfold bd34
  refine x_cons (xs_assign (v := .list [.str x]) i34_heads rfl (e_list (sp_one (fun _ => rfl) (e_var i34_straight rfl rfl rfl d_straight)) rfl (Nat.le_of_ble_eq_true rfl)) rfl (fun _ _ => rfl) rfl (Nat.le_of_ble_eq_true rfl) ?_)
  refine x_cons (x_for_range (a := 0) (b := k) (fun i σ' => ∃ w : V, σ' = [.str x, .int k, .list ((headsN x i).map .str), w]) i34__ rfl ?_ (fun _ _ => rfl) ?_ ⟨_, rfl⟩ ?_ ?_)
  · repeat' (first | wtm_at "mau")
  · exact small_one (by omega) (by omega) (by omega) (by omega)
  · rintro i σ' hi ⟨w, rfl⟩
    refine ⟨Nat.le_of_ble_eq_true rfl, ?_⟩
    dsimp only [List.set_cons_zero, List.set_cons_succ]
    have hi' : i < k := by omega
    have hlast : ((headsN x i).map V.str).getLast? = some (.str (dirs x i)) := by
      unfold headsN
      rw [List.range_succ, List.map_append, List.map_append]; simp
    have hlen : ((headsN x i).map V.str).length = i + 1 := by unfold headsN; simp
    refine x_cons (xs_assign (v := .list ((headsN x i).map V.str ++ [.str (dirN (dirs x i))])) i34_heads rfl (e_bin (e_var i34_heads rfl rfl rfl d_heads) (e_list (sp_one (fun _ => rfl) ?_) rfl (Nat.le_of_ble_eq_true rfl)) (BinV.addl (by rw [hlen, List.length_singleton]; omega))) rfl (fun _ _ => rfl) (by dsimp only [List.set_cons_zero, List.set_cons_succ] <;> rfl) (Nat.le_of_ble_eq_true rfl) (x_nil ⟨.int (0 + i), ?_⟩))
    · refine e_gcall g34_dirname d_dirname (fun _ => rfl) (fun _ _ => rfl) (sp_one (fun _ => rfl) (e_last (v := .str (dirs x i)) (fun _ _ => ⟨_, rfl⟩) (e_var i34_heads rfl rfl rfl d_heads) (e_is (e_neg e_int) rfl) hlast)) (s_dirname (n := n) H (hl i (by omega)))
    · unfold headsN
      rw [List.range_succ (n := i + 1), List.map_append, List.map_append]; rfl
  · rintro σ' ⟨w, rfl⟩
    have e : ((k : Int) - 0).toNat = k := by omega
    rw [e]
    repeat' (first | wtm_at "mst")
end
section
variable {G : Gl} {n : Nat} {t : Bool}
/-- a text of one sign -/
noncomputable def ch (c : Nat) : Str := ⟨#[c]⟩
noncomputable def dress1 (y : Str) : Str := if Txt.contains "?[" y = true then "[" ++ y ++ "]" else y
noncomputable def dressN (x : Str) : Str := Txt.join "" (x.cps.toList.map fun c => dress1 (ch c))
noncomputable def dressV : V → V
  | .str y => .str (dress1 y)
  | v => v
theorem range_getD {α : Type} (l : List α) (d : α) : (List.range l.length).map (fun i => (l[i]?).getD d) = l := by
  apply List.ext_getElem?
  intro i
  rw [List.getElem?_map]
  by_cases h : i < l.length
  · rw [List.getElem?_range h, Option.map_some, List.getElem?_eq_getElem h]; rfl
  · rw [List.getElem?_eq_none (by simpa using h), List.getElem?_eq_none (by simpa using h)]; rfl
theorem filter_true {α : Type} (l : List α) : l.filter (fun _ => true) = l := by simp
theorem dress_len (c : Nat) : (dress1 (ch c)).length ≤ 3 := by
  have e1 : ("[" : Str).length = 1 := by decide +kernel
  have e2 : ("]" : Str).length = 1 := by decide +kernel
  have e3 : (ch c).length = 1 := rfl
  unfold dress1; split
  · rw [Str.length_append, Str.length_append, e1, e2, e3]; omega
  · rw [e3]; omega
theorem sum_le {l : List Nat} {M : Nat} (h : ∀ a ∈ l, a ≤ M) : l.sum ≤ l.length * M := by
  induction l with
  | nil => simp
  | cons a l ih =>
    rw [List.sum_cons, List.length_cons, Nat.succ_mul]
    have := ih fun b hb => h b (.tail _ hb)
    have := h a (.head _)
    omega
theorem s_dress (H : Fns G) {x : Str} (hx : x.length ≤ 10000) (ha : x.cps.all (· < 128) = true) : CallN G (n + 1) t "_law_dress" [.str x] (.str (dressN x)) := by
  refine calln ["plain"] 0 H.f36 k36 (by decide +kernel) (fun _ _ _ _ _ vals h => by obtain ⟨v, rfl⟩ := len1 h; rfl) rfl (by simp [V.plain]) ?_
  show EX G n sc36 t bd36 [.str x] _
  unfold bd36
  refine x_cons (x_return (v := .str (dressN x)) ?_ rfl rfl)
  have hl : x.cps.toList.length = x.length := by simp [Str.length]
  refine e_methc PySem.F.slot_str_join ty_join (fun _ _ => rfl) (fun _ => rfl) rfl (fun _ _ => rfl) e_str (sp_one (fun _ => rfl) (EF.ep (EF.weak ?_))) ?_ (vs := [.list ((x.cps.toList.map fun c => dress1 (ch c)).map .str)])
  · refine f_is (f_comp (src := .str x) (N := x.length) (vs := fun i => .str (ch ((x.cps.toList[i]?).getD 0))) (kx := 1) (fun _ => true) dressV (fun v => [.unb, v]) (e_var i36_plain rfl rfl rfl d_plain) (fun _ _ => rfl) ⟨ha, rfl, ?_⟩ (by omega) (fun _ _ => trivial) ?_
      (by decide +kernel) rfl (by decide +kernel) (by decide +kernel) (by decide +kernel) (by decide +kernel) (fun _ => rfl) ?_ (fun _ _ => rfl) ?_) ?_
    · intro i c hc
      have : x.cps.toList[i]? = some c := by simpa using hc
      show V.str (ch ((x.cps.toList[i]?).getD 0)) = _
      rw [this]; rfl
    · refine clo_of (by decide +kernel) (by decide +kernel) ?_
      intro k y hk
      match k, hk with
      | 0, hk => exact absurd (Prod.mk.inj (Option.some.inj hk)).2 (by decide)
      | 1, hk => exact absurd (Prod.mk.inj (Option.some.inj hk)).2 (by decide)
      | k + 2, hk => cases hk
    · intro v k y u h1 h2 h3
      match k, h2 with
      | 0, h2 => cases h2; exact absurd rfl h3
      | 1, h2 => rfl
      | k + 2, h2 => cases h2
    · intro i hi _
      refine ⟨?_, rfl⟩
      generalize ((x.cps.toList[i]?).getD 0) = c
      have hv : ∀ {F' : Scope} {p : Pos}, idx F' "mark" = some (1, .local) → EP G n F' false (.Name "mark" p) [V.unb, .str (ch c)] (.str (ch c)) := fun hk => e_var hk rfl rfl rfl d_mark
      have e3 : (ch c).length = 1 := rfl
      have e1 : ("[" : Str).length = 1 := by decide +kernel
      have e2 : ("]" : Str).length = 1 := by decide +kernel
      refine e_if (b := Txt.contains "?[" (ch c)) (t_cmpv rfl (hv (by decide +kernel)) e_str (CmpV.ins _ _)) (fun h => ?_) (fun h => ?_)
      · refine e_is (e_bin (e_bin e_str (hv (by decide +kernel)) (BinV.adds ?_)) e_str (BinV.adds ?_)) ?_
        · rw [e1, e3]; omega
        · rw [Str.length_append, e1, e2, e3]; omega
        · show _ = V.str (dress1 (ch c))
          unfold dress1; rw [if_pos h]
      · refine e_is (hv (by decide +kernel)) ?_
        show _ = V.str (dress1 (ch c))
        unfold dress1; rw [if_neg (by rw [h]; exact Bool.false_ne_true)]
    · rw [filter_true, List.map_map, List.map_map]
      conv => rhs; rw [← range_getD x.cps.toList 0]
      rw [List.map_map, hl]
      rfl
  · refine c_join_list ?_
    have e0 : ("" : Str).length = 0 := by decide +kernel
    have := sum_le (l := (x.cps.toList.map fun c => dress1 (ch c)).map (·.length)) (M := 3) (by
      intro a ha
      rw [List.map_map] at ha
      obtain ⟨c, _, rfl⟩ := List.mem_map.mp ha
      exact dress_len c)
    rw [List.length_map, List.length_map, hl] at this
    rw [e0]; omega
end
section
variable {G : Gl} {n : Nat} {t : Bool}
noncomputable def rstep (place : Str) (o : Option Int) (run : Str) : Option Int := o.bind fun spot => if decide (Txt.find3 place run spot < 0) = true then none else some (Txt.find3 place run spot + run.length)
noncomputable def reachN (r0 : Str) (mid : List Str) (rl place : Str) : Int :=
  if (Txt.slice place none (some (r0.length : Int)) != r0) = true then -1 else
    match mid.foldl (rstep place) (some (r0.length : Int)) with
    | none => -1
    | some spot => if decide (0 ≤ rfind3 place rl spot) = true then rfind3 place rl spot + rl.length else -1
theorem rstep_none (place : Str) (l : List Str) : l.foldl (rstep place) none = none := by
  induction l with
  | nil => rfl
  | cons a l ih => exact ih
theorem s_reach (H : Fns G) {r0 rl place : Str} {mid : List Str} (h0 : r0.length ≤ 100000) (h1 : ∀ r ∈ mid, r.length ≤ 100000) (h2 : rl.length ≤ 100000) (h3 : place.length ≤ 100000) (h4 : mid.length ≤ 100000) :
    CallN G (n + 1) t "_law_reach" [.list ((r0 :: (mid ++ [rl])).map .str), .str place] (.int (reachN r0 mid rl place)) := by
  refine calln ["runs", "place"] 3 H.f39 k39 (by decide +kernel) (fun _ _ _ _ _ vals h => by obtain ⟨v, w, rfl⟩ := len2 h; rfl) rfl (by simp [V.plain]) ?_
  show EX G n sc39 t bd39 [.list ((r0 :: (mid ++ [rl])).map .str), .str place, .unb, .unb, .unb] _
  unfold bd39
  have hfirst : ((r0 :: (mid ++ [rl])).map V.str).head? = some (.str r0) := rfl
  have hlast : ((r0 :: (mid ++ [rl])).map V.str).getLast? = some (.str rl) := by
    rw [List.map_cons, List.map_append, ← List.cons_append]; exact List.getLast?_concat
  have hmid : (((r0 :: (mid ++ [rl])).map V.str).drop 1).dropLast = mid.map V.str := by
    simp
  have hlen : ((r0 :: (mid ++ [rl])).map V.str).length ≤ 16777216 := by simp; omega
  generalize (r0 :: (mid ++ [rl])).map V.str = rv at *
  refine x_cons (x_if (b := (Txt.slice place none (some (r0.length : Int)) != r0)) ?_ (fun h => ?_) (fun h => x_nil ?_))
  · refine t_cmpv rfl (e_slice_str (e_var i39_place rfl rfl rfl d_place) pp_none (pp_some (e_bcall g39_len H.n_len bb_len nn_len d_len (fun _ => rfl) (fun _ _ => rfl) (sp_one (fun _ => rfl) (e_first (fun _ _ => ⟨_, rfl⟩) (e_var i39_runs rfl rfl rfl d_runs) e_int hfirst)) (c_len_str (by omega)))) (by omega))
      (e_first (fun _ _ => ⟨_, rfl⟩) (e_var i39_runs rfl rfl rfl d_runs) e_int hfirst) (CmpV.nes _ _)
  · refine x_cons (x_return (v := .int (-1)) (e_is (e_neg e_int) rfl) rfl ?_)
    show _ = _
    unfold reachN; rw [if_pos h]
  have hN : reachN r0 mid rl place = match mid.foldl (rstep place) (some (r0.length : Int)) with
    | none => -1
    | some spot => if decide (0 ≤ rfind3 place rl spot) = true then rfind3 place rl spot + rl.length else -1 := by
    unfold reachN; rw [if_neg (by rw [h]; exact Bool.false_ne_true)]
  rw [hN]
  refine x_cons (xs_assign (v := .int r0.length) i39_spot rfl (e_bcall g39_len H.n_len bb_len nn_len d_len (fun _ => rfl) (fun _ _ => rfl) (sp_one (fun _ => rfl) (e_first (fun _ _ => ⟨_, rfl⟩) (e_var i39_runs rfl rfl rfl d_runs) e_int hfirst)) (c_len_str (by omega))) rfl (fun _ _ => rfl) rfl (Nat.le_of_ble_eq_true rfl) ?_)
  dsimp only [List.set_cons_zero, List.set_cons_succ]
  refine x_cons (x_for_strs (ys := mid) (fun i σ' => ∃ (spot : Int) (u w : V), (mid.take i).foldl (rstep place) (some (r0.length : Int)) = some spot ∧ σ' = [.list rv, .str place, .int spot, u, w]) i39_run rfl ?_ (fun _ _ => rfl) ⟨_, _, _, rfl, rfl⟩ ?_ ?_)
  · refine e_is (e_slice_mid (e_var i39_runs rfl rfl rfl d_runs) e_int (e_is (e_neg e_int) rfl) hlen) ?_
    rw [hmid]
  · rintro i y σ' hy ⟨spot, u, w, hs, rfl⟩
    refine ⟨Nat.le_of_ble_eq_true rfl, ?_⟩
    dsimp only [List.set_cons_zero, List.set_cons_succ]
    have hyl := h1 y (List.mem_of_getElem? hy)
    have hst : (mid.take (i + 1)).foldl (rstep place) (some (r0.length : Int)) = rstep place (some spot) y := by rw [fold_take hy, hs]
    refine x_cons (xs_assign (v := .int (Txt.find3 place y spot)) i39_found rfl ?_ rfl (fun _ _ => rfl) (by dsimp only [List.set_cons_zero, List.set_cons_succ] <;> rfl) (Nat.le_of_ble_eq_true rfl) ?_)
    · repeat' (first | wtm_at "mau")
    refine x_cons (x_if (b := decide (Txt.find3 place y spot < 0)) ?_ (fun h => ?_) (fun h => x_nil ?_))
    · repeat' (first | wtm_at "mau")
    · refine x_cons (x_return (v := .int (-1)) (e_is (e_neg e_int) rfl) rfl ?_)
      show _ = _
      have e : mid.foldl (rstep place) (some (r0.length : Int)) = none := by
        conv => lhs; rw [← List.take_append_drop (i + 1) mid]
        rw [List.foldl_append, hst]
        have : rstep place (some spot) y = none := by unfold rstep; rw [Option.bind_some, if_pos h]
        rw [this, rstep_none]
      rw [e]
    · refine x_cons (xs_assign (v := .int (Txt.find3 place y spot + y.length)) i39_spot rfl ?_ rfl (fun _ _ => rfl) (by dsimp only [List.set_cons_zero, List.set_cons_succ] <;> rfl) (Nat.le_of_ble_eq_true rfl) (x_nil ⟨_, .str y, .int (Txt.find3 place y spot), ?_, rfl⟩))
      · repeat' (first | wtm_at "mau")
        omega
      · rw [hst]; unfold rstep; rw [Option.bind_some, if_neg (by rw [h]; exact Bool.false_ne_true)]
  · rintro σ' ⟨spot, u, w, hs, rfl⟩
    rw [List.take_length] at hs
    rw [hs]
    refine x_cons (xs_assign (v := .int (rfind3 place rl spot)) i39_found rfl ?_ rfl (fun _ _ => rfl) (by dsimp only [List.set_cons_zero, List.set_cons_succ] <;> rfl) (Nat.le_of_ble_eq_true rfl) ?_)
    · refine e_methc PySem.F.slot_str_rfind ty_rfind (fun _ _ => rfl) (fun _ => rfl) rfl (fun _ _ => rfl) (e_var i39_place rfl rfl rfl d_place) (sp_cons (fun _ => rfl) (e_last (fun _ _ => ⟨_, rfl⟩) (e_var i39_runs rfl rfl rfl d_runs) (e_is (e_neg e_int) rfl) hlast) (sp_one (fun _ => rfl) (e_var i39_spot rfl rfl rfl d_spot)) rfl) c_rfind3
    refine x_cons (x_return (v := .int (if decide (0 ≤ rfind3 place rl spot) = true then rfind3 place rl spot + rl.length else -1)) ?_ rfl rfl)
    refine e_if (b := decide (0 ≤ rfind3 place rl spot)) (t_cmpv rfl (e_var i39_found rfl rfl rfl d_found) e_int (CmpV.gei _ _)) (fun h => ?_) (fun h => ?_)
    · rw [if_pos h]
      exact e_bin (e_var i39_found rfl rfl rfl d_found) (e_bcall g39_len H.n_len bb_len nn_len d_len (fun _ => rfl) (fun _ _ => rfl) (sp_one (fun _ => rfl) (e_last (fun _ _ => ⟨_, rfl⟩) (e_var i39_runs rfl rfl rfl d_runs) (e_is (e_neg e_int) rfl) hlast)) (c_len_str (by omega))) (BinV.addi _ _)
    · rw [if_neg (by rw [h]; exact Bool.false_ne_true)]
      exact e_is (e_neg e_int) rfl
end
section
variable {G : Gl} {n : Nat} {t : Bool}
theorem items_reps {a : Int} : ∀ (k : Nat) {vs : List Value}, vs.length = k → (∀ (i : Nat) (v : Value), vs[i]? = some v → ∃ t, v = Value.int (a + i * 1) t) → Reps (((List.range k).map fun i : Nat => a + i).map V.int) vs := by
  intro k
  induction k with
  | zero =>
    intro vs h _
    cases vs with
    | nil => trivial
    | cons v vs => cases h
  | succ k ih =>
    intro vs h hp
    have hs : vs = vs.take k ++ [vs[k]'(by omega)] := by
      conv => lhs; rw [← List.take_append_drop k vs]
      congr 1
      rw [List.drop_eq_getElem_cons (by omega), List.drop_eq_nil_of_le (by omega)]
    rw [hs, List.range_succ, List.map_append, List.map_append]
    refine Reps.append (ih (by rw [List.length_take]; omega) fun i v hi => ?_) ?_
    · have hik : i < k := by
        have := (List.getElem?_eq_some_iff.mp hi).1
        rw [List.length_take] at this; omega
      rw [List.getElem?_take_of_lt hik] at hi
      exact hp i v hi
    · obtain ⟨t, e⟩ := hp k _ (List.getElem?_eq_getElem (by omega))
      refine ⟨⟨t, ?_⟩, trivial⟩
      rw [e, Int.mul_one]
theorem c_list_range {a b : Int} (hs : Builtin.Range.small a b 1 = true) (hab : a ≤ b) (hl : b - a ≤ 100000) : CallV G n t (.type "list") [.range a b 1] (.list (((List.range (b - a).toNat).map fun i : Nat => a + i).map V.int)) := fun A mu s vals E rm ar rv => by
  obtain ⟨v, rfl, r, tk, u, w, rfl, nr, hr⟩ := args1 rv
  refine call_list_range rm.2.2 hr hs (rangeSize_nat a b) (by omega) fun h' tk acc' c' keep hobj items => ?_
  refine ⟨⟨_, acc'.toList, rfl, not_mu ar (fresh_none _), ⟨c', by rw [Array.toArray_toList]; exact hobj⟩, items_reps _ ?_ fun i v hi => ?_⟩, Kt.of_keeps keep, Gl.tabKt ar.tab keep⟩
  · rw [Array.length_toList]; exact items.1
  · exact items.2 i v (by simpa using hi)
noncomputable def starN (p : List Nat) : List Nat → List Nat
  | [] => []
  | e :: _ => (List.range (p.length + 1 - e)).map (e + ·)
noncomputable def fstepN (p : List Nat) (es : List Nat) (c : Nat) : List Nat :=
  if c = 42 then starN p es else (es.filter fun k => p[k]? == some c).map (· + 1)
noncomputable def farN (pat p : List Nat) : Int := match (pat.foldl (fstepN p) [0]).getLast? with
  | none => -1
  | some e => (e : Int)
noncomputable def FOk (p es : List Nat) : Prop := (∀ e ∈ es, e ≤ p.length) ∧ es.length ≤ p.length + 1
theorem fstep_ok {p es : List Nat} (c : Nat) (h : FOk p es) : FOk p (fstepN p es c) := by
  unfold fstepN
  split
  · cases es with
    | nil => exact ⟨(fun _ h => nomatch h), Nat.zero_le _⟩
    | cons e es =>
      refine ⟨fun k hk => ?_, ?_⟩
      · obtain ⟨i, hi, rfl⟩ := List.mem_map.mp hk
        have := List.mem_range.mp hi
        omega
      · unfold starN; rw [List.length_map, List.length_range]; omega
  · refine ⟨fun k hk => ?_, ?_⟩
    · obtain ⟨i, hi, rfl⟩ := List.mem_map.mp hk
      have h2 := (List.mem_filter.mp hi).2
      have : p[i]? = some c := by simpa using h2
      have := (List.getElem?_eq_some_iff.mp this).1
      omega
    · rw [List.length_map]
      exact Nat.le_trans (List.length_filter_le _ _) h.2
theorem fold_ok {p : List Nat} : ∀ (cs es : List Nat), FOk p es → FOk p (cs.foldl (fstepN p) es)
  | [], es, h => h
  | c :: cs, es, h => fold_ok cs _ (fstep_ok c h)
noncomputable def natV (es : List Nat) : List V := (es.map fun e : Nat => (e : Int)).map V.int
theorem natV_map (es : List Nat) : natV es = es.map fun e : Nat => V.int e := by unfold natV; rw [List.map_map]; rfl
theorem ch_eq (c d : Nat) : (ch c == ch d) = (c == d) := by
  rw [Bool.eq_iff_iff]; simp [ch]
theorem star_ch : ("*" : Str) = ch 42 := by decide +kernel
theorem slice1 (x : Str) (k c : Nat) : (Txt.slice x (some (k : Int)) (some ((k : Int) + 1)) == ch c) = (x.cps.toList[k]? == some c) := by
  have e : ((k : Int) + 1) = ((k + 1 : Nat) : Int) := by omega
  rw [e, slice_nat, Bool.eq_iff_iff, beq_iff_eq, beq_iff_eq]
  have : k + 1 - k = 1 := by omega
  rw [this, ← StrLaws.take1_drop (i := k)]
  simp [ch]
noncomputable def incV : V → V
  | .int i => .int (i + 1)
  | v => v
noncomputable def keepV (p : List Nat) (c : Nat) : V → Bool
  | .int i => p[i.toNat]? == some c
  | _ => false
theorem swaps_true {elt iter : Expr} {y t : Str} {px p cpos : Pos} {ifs : List Expr} {scope F : Scope} {line : Nat} {env : Env} (h : env.scope = F)
    (hk : ((if F.kind.isAnnotationScope then ScopeKind.function else F.kind) == .function && F.names.lookup t == some .local && p.line == cpos.line && !(scope.names.any fun (n, k) => n == t && (k == .local || k == .cell))) = true) :
    swapsWith (.ListComp elt [⟨.Name y px, iter, ifs, 0⟩] scope cpos) (some (.Name t p)) line env = pure true := by
  subst h
  show pure (env.blockKind == .function && env.kindOf t == some .local && p.line == cpos.line && !(scope.names.any fun (n, k) => n == t && (k == .local || k == .cell))) = pure true
  congr 1
theorem far_key (p es : List Nat) (c : Nat) : (((List.range es.length).map fun i => V.int (((es[i]?).getD 0 : Nat) : Int)).filter (keepV p c)).map incV = natV ((es.filter fun k => p[k]? == some c).map (· + 1)) := by
  have e1 : ((List.range es.length).map fun i => V.int (((es[i]?).getD 0 : Nat) : Int)) = es.map fun e : Nat => V.int e := by
    conv => rhs; rw [← range_getD es 0]
    rw [List.map_map]; rfl
  rw [e1, List.filter_map, List.map_map, natV_map, List.map_map]
  have e2 : (keepV p c ∘ fun e : Nat => V.int e) = fun k => p[k]? == some c := by funext k; simp [keepV]
  rw [e2]
  apply List.map_congr_left
  intro k _
  simp [incV]
theorem s_farthest (H : Fns G) {pat place : Str} (hp : pat.length ≤ 10000) (hl : place.length ≤ 90000) (ha : pat.cps.all (· < 128) = true) :
    CallN G (n + 1) t "_law_farthest" [.str pat, .str place] (.int (farN pat.cps.toList place.cps.toList)) := by
  refine calln ["pattern", "place"] 2 H.f40 k40 (by decide +kernel) (fun _ _ _ _ _ vals h => by obtain ⟨v, w, rfl⟩ := len2 h; rfl) rfl (by simp [V.plain]) ?_
  show EX G n sc40 t bd40 [.str pat, .str place, .unb, .unb] _
  unfold bd40
  have hpl : place.cps.toList.length = place.length := by simp [Str.length]
  refine x_cons (xs_assign (v := .list (natV [0])) i40_ends rfl (e_list (sp_one (fun _ => rfl) e_int) rfl (Nat.le_of_ble_eq_true rfl)) rfl (fun _ _ => rfl) rfl (Nat.le_of_ble_eq_true rfl) ?_)
  dsimp only [List.set_cons_zero, List.set_cons_succ]
  refine x_cons (x_for_str (y := pat) (fun i σ' => ∃ w : V, σ' = [.str pat, .str place, .list (natV ((pat.cps.toList.take i).foldl (fstepN place.cps.toList) [0])), w]) i40_mark rfl (e_var i40_pattern rfl rfl rfl d_pattern) (fun _ _ => rfl) ha ⟨_, rfl⟩ ?_ ?_)
  · rintro i c σ' hc ⟨w, rfl⟩
    refine ⟨Nat.le_of_ble_eq_true rfl, ?_⟩
    dsimp only [List.set_cons_zero, List.set_cons_succ]
    have hc' : pat.cps.toList[i]? = some c := by simpa using hc
    have hok : FOk place.cps.toList ((pat.cps.toList.take i).foldl (fstepN place.cps.toList) [0]) := fold_ok _ _ ⟨fun e he => by rw [List.mem_singleton.mp he]; omega, by simp⟩
    unfold Turn
    rw [fold_take hc']
    generalize (pat.cps.toList.take i).foldl (fstepN place.cps.toList) [0] = es at *
    have hlen : (natV es).length = es.length := by unfold natV; simp
    have hem : (natV es) = (es.map fun e : Nat => (e : Int)).map V.int := rfl
    refine x_cons (x_if (b := (ch c == "*")) (t_cmpv rfl (e_var i40_mark rfl rfl rfl d_mark) e_str (CmpV.eqs _ _)) (fun h => ?_) (fun h => ?_))
    · have hc2 : c = 42 := by rw [star_ch, ch_eq] at h; simpa using h
      have hval : fstepN place.cps.toList es c = starN place.cps.toList es := by unfold fstepN; rw [if_pos hc2]
      rw [hval]
      refine x_cons (xs_assign (v := .list (natV (starN place.cps.toList es))) i40_ends rfl ?_ rfl (fun _ _ => rfl) (by dsimp only [List.set_cons_zero, List.set_cons_succ] <;> rfl) (Nat.le_of_ble_eq_true rfl) (x_nil (x_nil ⟨.str (ch c), rfl⟩)))
      refine e_if (b := !decide ((es.map fun e : Nat => (e : Int)) = [])) (t_cmp (e_ne_ints (xs := es.map fun e : Nat => (e : Int)) (ys := []) (e_var i40_ends rfl rfl rfl d_ends).loan (e_list sp_nil rfl (Nat.le_of_ble_eq_true rfl)).loan rfl) rfl) (fun h2 => ?_) (fun h2 => ?_)
      · cases es with
        | nil => simp at h2
        | cons e es =>
          have he := hok.1 e (.head _)
          refine e_tcall g40_list H.n_list bb_list nn_list d_list (fun _ => rfl) (fun _ _ => rfl) (sp_one (fun _ => rfl) (e_tcall g40_range H.n_range bb_range nn_range d_range (fun _ => rfl) (fun _ _ => rfl)
            (sp_cons (fun _ => rfl) (e_first (v := .int e) (fun _ _ => ⟨_, rfl⟩) (e_var i40_ends rfl rfl rfl d_ends) e_int rfl) (sp_one (fun _ => rfl) (e_bin (e_bcall g40_len H.n_len bb_len nn_len d_len (fun _ => rfl) (fun _ _ => rfl) (sp_one (fun _ => rfl) (e_var i40_place rfl rfl rfl d_place)) (c_len_str (by omega))) e_int (BinV.addi _ _))) rfl) c_range2)) ?_
          have e0 : starN place.cps.toList (e :: es) = (List.range (place.cps.toList.length + 1 - e)).map (e + ·) := rfl
          have e1 : natV ((List.range (place.cps.toList.length + 1 - e)).map (e + ·)) = ((List.range ((place.length : Int) + 1 - e).toNat).map fun i : Nat => (e : Int) + i).map V.int := by
            unfold natV
            have e2 : ((place.length : Int) + 1 - e).toNat = place.cps.toList.length + 1 - e := by omega
            rw [e2, List.map_map (f := (e + ·))]
            congr 1
          rw [e0, e1]
          exact c_list_range (small_one (by omega) (by omega) (by omega) (by omega)) (by omega) (by omega)
      · cases es with
        | nil => exact e_list sp_nil rfl (Nat.le_of_ble_eq_true rfl)
        | cons e es => simp at h2
    · have hc2 : c ≠ 42 := by
        intro q; subst q
        rw [star_ch, ch_eq] at h; simp at h
      have hval : fstepN place.cps.toList es c = (es.filter fun k => place.cps.toList[k]? == some c).map (· + 1) := by unfold fstepN; rw [if_neg hc2]
      rw [hval]
      have hv : ∀ {F' : Scope} {p : Pos} {i : Nat}, idx F' "k" = some (1, .local) → EP G n F' false (.Name "k" p) [V.unb, .int i, .str (ch c), .str place] (.int i) := fun hk => e_var hk rfl rfl rfl (by decide +kernel)
      refine x_cons (x_assign_comp (kd := .local) (src := .list (natV es)) (N := es.length) (vs := fun i => .int (((es[i]?).getD 0 : Nat) : Int)) (kx := 1) (keepV place.cps.toList c) incV (fun v => [.unb, v, .str (ch c), .str place]) i40_ends (Nat.le_of_ble_eq_true rfl) (e_var i40_ends rfl rfl rfl d_ends) (fun _ _ => rfl) ⟨hlen.symm, ?_⟩ (by have := hok.2; omega) (fun _ _ => trivial) ?_
        (by decide +kernel) rfl (by decide +kernel) (by decide +kernel) (by decide +kernel) (by decide +kernel) (fun _ => rfl) ?_ ?_ ?_ ?_ (x_nil (x_nil ⟨.str (ch c), ?_⟩)))
      · intro i hi
        rw [natV_map, List.getElem?_map]
        show _ = some (V.int (((es[i]?).getD 0 : Nat) : Int))
        rw [List.getElem?_eq_getElem hi]; rfl
      · refine clo_of (by decide +kernel) (by decide +kernel) ?_
        intro k y hk
        match k, hk with
        | 0, hk => exact absurd (Prod.mk.inj (Option.some.inj hk)).2 (by decide)
        | 1, hk => exact absurd (Prod.mk.inj (Option.some.inj hk)).2 (by decide)
        | 2, hk => cases (Prod.mk.inj (Option.some.inj hk)).1; exact ⟨3, i40_mark, fun v w h1 h2 => by cases h1; exact ⟨rfl, rfl⟩⟩
        | 3, hk => cases (Prod.mk.inj (Option.some.inj hk)).1; exact ⟨1, i40_place, fun v w h1 h2 => by cases h1; exact ⟨rfl, rfl⟩⟩
        | k + 4, hk => cases hk
      · intro v k y u h1 h2 h3
        have h4 := congrArg (Option.map (·.2)) h1
        simp only [Option.map_some] at h4
        match k, h2 with
        | 0, h2 => cases h2; exact absurd rfl h3
        | 1, h2 => rfl
        | 2, h2 => exact absurd h4 (by decide +kernel)
        | 3, h2 => exact absurd h4 (by decide +kernel)
        | k + 4, h2 => cases h2
      · intro i hi
        show ET _ _ _ _ _ _ (place.cps.toList[(((es[i]?).getD 0 : Nat) : Int).toNat]? == some c)
        generalize (es[i]?).getD 0 = e
        rw [Int.toNat_natCast, ← slice1]
        refine t_cmpv rfl (e_slice_str (e_var (k := 3) (kd := .cell) (by decide +kernel) rfl rfl rfl d_place) (pp_some (hv (by decide +kernel))) (pp_some (e_bin (hv (by decide +kernel)) e_int (BinV.addi _ _))) (by omega)) (e_var (k := 2) (kd := .cell) (by decide +kernel) rfl rfl rfl d_mark) (CmpV.eqs _ _)
      · intro i hi _
        exact ⟨e_bin (hv (by decide +kernel)) e_int (BinV.addi _ _), rfl⟩
      · intro env h
        exact swaps_true h (by decide +kernel)
      · rw [far_key]; rfl
  · rintro σ' ⟨w, rfl⟩
    have hpat : pat.cps.size = pat.cps.toList.length := by simp
    rw [hpat, List.take_length]
    have hok : FOk place.cps.toList (pat.cps.toList.foldl (fstepN place.cps.toList) [0]) := fold_ok _ _ ⟨fun e he => by rw [List.mem_singleton.mp he]; omega, by simp⟩
    have hfar : farN pat.cps.toList place.cps.toList = match (pat.cps.toList.foldl (fstepN place.cps.toList) [0]).getLast? with | none => -1 | some e => (e : Int) := rfl
    rw [hfar]
    generalize pat.cps.toList.foldl (fstepN place.cps.toList) [0] = es at *
    refine x_cons (x_return ?_ rfl rfl)
    have hem : (natV es) = (es.map fun e : Nat => (e : Int)).map V.int := rfl
    refine e_if (b := !decide ((es.map fun e : Nat => (e : Int)) = [])) (t_cmp (e_ne_ints (xs := es.map fun e : Nat => (e : Int)) (ys := []) (e_var i40_ends rfl rfl rfl d_ends).loan (e_list sp_nil rfl (Nat.le_of_ble_eq_true rfl)).loan rfl) rfl) (fun h2 => ?_) (fun h2 => ?_)
    · have hne : es ≠ [] := by intro q; subst q; simp at h2
      rw [List.getLast?_eq_some_getLast hne]
      refine e_last (fun _ _ => ⟨_, rfl⟩) (e_var i40_ends rfl rfl rfl d_ends) (e_is (e_neg e_int) rfl) ?_
      rw [natV_map, List.getLast?_map, List.getLast?_eq_some_getLast hne]; rfl
    · cases es with
      | nil => exact e_is (e_neg e_int) rfl
      | cons e es => simp at h2
end
section
variable {G : Gl} {n : Nat} {t : Bool}
noncomputable def S (l : List Nat) : Str := ⟨l.toArray⟩
noncomputable def emp : Str := ""
noncomputable def lastS (runs : List Str) : Str := (runs.getLast?).getD ""
noncomputable def rb1 (rest : List Nat) (st : Int) : Bool := (S (rest.take 6) == "(?>.*?") && (([0, 2] : List Int).contains st && true)
noncomputable def rb2 (c : Nat) (st : Int) : Bool := (ch c == ")") && ((st == 1) && true)
noncomputable def rb3 (rest : List Nat) (st : Int) : Bool := (S (rest.take 2) == ".*") && (([0, 2] : List Int).contains st && true)
noncomputable def rb4 (c : Nat) (rest : List Nat) (st : Int) : Bool := (ch c == "\\") && ((([".", "?", "[", "+"] : List Str).contains (S ((rest.drop 1).take 1))) && ((st != 2) && true))
noncomputable def rb5 (c : Nat) (st : Int) : Bool := (Txt.contains "ab/" (ch c)) && ((st != 2) && true)
noncomputable def rloop : Nat → List Nat → Int → List Str → List Str
  | _, [], st, runs => if (st == 3) = true then runs else []
  | 0, _ :: _, _, _ => []
  | k + 1, c :: r, st, runs =>
    if rb1 (c :: r) st = true then rloop k ((c :: r).drop 6) 1 (runs ++ [emp])
    else if rb2 c st = true then rloop k r 2 runs
    else if rb3 (c :: r) st = true then rloop k ((c :: r).drop 2) 3 (runs ++ [emp])
    else if rb4 c (c :: r) st = true then rloop k ((c :: r).drop 2) st (runs.dropLast ++ [lastS runs ++ S (r.take 1)])
    else if rb5 c st = true then rloop k r st (runs.dropLast ++ [lastS runs ++ ch c])
    else []
noncomputable def runsN (L : List Nat) : List Str := rloop L.length L 0 [""]
theorem take_len {l : List Nat} {k : Nat} {y : Str} (h : (S (l.take k) == y) = true) (hy : y.length = k) : k ≤ l.length := by
  have e : S (l.take k) = y := by simpa using h
  have : (S (l.take k)).length = k := by rw [e, hy]
  simp [S, Str.length] at this
  omega
theorem lastS_app (l : List Str) (x : Str) : lastS (l ++ [x]) = x := by unfold lastS; rw [List.getLast?_concat]; rfl
theorem last_strV {runs : List Str} (h : runs ≠ []) : (runs.map V.str).getLast? = some (.str (lastS runs)) := by
  rw [List.getLast?_map, lastS, List.getLast?_eq_some_getLast h]; rfl
theorem s_runs (H : Fns G) {text : Str} (hx : text.length ≤ 100000) :
    CallN G (n + 1) t "_law_runs" [.str text] (.list ((runsN text.cps.toList).map .str)) := by
  refine calln ["text"] 3 H.f38 k38 (by decide +kernel) (fun _ _ _ _ _ vals h => by obtain ⟨v, rfl⟩ := len1 h; rfl) rfl (by simp [V.plain]) ?_
  show EX G n sc38 t bd38 [.str text, .unb, .unb, .unb] _
  unfold bd38
  have hL : text.cps.toList.length = text.length := by simp [Str.length]
  generalize hR : runsN text.cps.toList = R
  refine x_cons (xs_assign (v := .list [.str ""]) i38_runs rfl (e_list (sp_one (fun _ => rfl) e_str) rfl (Nat.le_of_ble_eq_true rfl)) rfl (fun _ _ => rfl) rfl (Nat.le_of_ble_eq_true rfl) ?_)
  refine x_cons (xs_assign (v := .int 0) i38_state rfl e_int rfl (fun _ _ => rfl) (by dsimp only [List.set_cons_zero, List.set_cons_succ] <;> rfl) (Nat.le_of_ble_eq_true rfl) ?_)
  refine x_cons (xs_assign (v := .int 0) i38_spot rfl e_int rfl (fun _ _ => rfl) (by dsimp only [List.set_cons_zero, List.set_cons_succ] <;> rfl) (Nat.le_of_ble_eq_true rfl) ?_)
  refine x_cons (x_while (fun m σ' => ∃ (spot k : Nat) (st : Int) (runs : List Str), σ' = [.str text, .list (runs.map .str), .int st, .int spot] ∧ runs ≠ [] ∧ runs.length ≤ spot + 1 ∧ (lastS runs).length ≤ spot ∧ spot ≤ text.length ∧ m = text.length - spot ∧ (text.cps.toList.drop spot).length ≤ k ∧ rloop k (text.cps.toList.drop spot) st runs = R) ?_ text.length
    ⟨0, text.cps.toList.length, 0, [""], rfl, by simp, by simp, by decide +kernel, Nat.zero_le _, rfl, by simp, hR⟩)
  rintro m σ ⟨spot, k, st, runs, rfl, hne, hrl, hll, hsp, rfl, hk, hr⟩
  have hrv : (runs.map V.str).length = runs.length := List.length_map ..
  refine ⟨decide ((spot : Int) < text.length), ?_, fun hb => ?_, fun hb => ?_⟩
  · repeat' (first | wtm_at "mau")
    omega
  · have hlt : spot < text.length := by have := of_decide_eq_true hb; omega
    have hlt2 : spot < text.cps.toList.length := by omega
    obtain ⟨c, hc⟩ : ∃ c, text.cps.toList[spot]? = some c := ⟨_, List.getElem?_eq_getElem hlt2⟩
    obtain ⟨rest, hrest⟩ : ∃ rest, text.cps.toList.drop (spot + 1) = rest := ⟨_, rfl⟩
    have hdrop : text.cps.toList.drop spot = c :: rest := by
      rw [List.drop_eq_getElem_cons hlt2, hrest]
      rw [List.getElem?_eq_getElem hlt2] at hc
      cases hc; rfl
    have hdd : ∀ j, text.cps.toList.drop (spot + j) = (c :: rest).drop j := by intro j; rw [← hdrop, List.drop_drop]
    have hlr : rest.length = text.length - spot - 1 := by rw [← hrest, List.length_drop]; omega
    rw [hdrop] at hr hk
    have hs6 : Txt.slice text (some (spot : Int)) (some ((spot : Int) + 6)) = S ((c :: rest).take 6) := by
      have e : ((spot : Int) + 6) = ((spot + 6 : Nat) : Int) := by omega
      rw [e, slice_nat, hdrop, show spot + 6 - spot = 6 by omega]; rfl
    have hs2 : Txt.slice text (some (spot : Int)) (some ((spot : Int) + 2)) = S ((c :: rest).take 2) := by
      have e : ((spot : Int) + 2) = ((spot + 2 : Nat) : Int) := by omega
      rw [e, slice_nat, hdrop, show spot + 2 - spot = 2 by omega]; rfl
    have hs1 : Txt.slice text (some ((spot : Int) + 1)) (some ((spot : Int) + 2)) = S (rest.take 1) := by
      have e : ((spot : Int) + 2) = ((spot + 2 : Nat) : Int) := by omega
      have e' : ((spot : Int) + 1) = ((spot + 1 : Nat) : Int) := by omega
      rw [e, e', slice_nat, hrest, show spot + 2 - (spot + 1) = 1 by omega]; rfl
    have hitem : ∀ {p q pos : Pos}, EP G n sc38 t (.Subscript (.Name "text" p) (.Name "spot" q) pos) [.str text, .list (runs.map .str), .int st, .int spot] (.str (ch c)) := fun {p q pos} => e_item_str (fun _ _ => ⟨_, rfl⟩) (e_var i38_text rfl rfl rfl d_text) (e_var i38_spot rfl rfl rfl d_spot) (by omega) (by omega) (by simpa using hc)
    obtain ⟨k, rfl⟩ : ∃ j, k = j + 1 := ⟨k - 1, by simp at hk; omega⟩
    have hk' : rest.length ≤ k := by simpa using hk
    have hdl : ∀ j, ((c :: rest).drop (j + 1)).length ≤ k := by intro j; rw [List.drop_succ_cons, List.length_drop]; omega
    have eC : ((spot : Int) + 6) = ((spot + 6 : Nat) : Int) := by omega
    have eB : ((spot : Int) + 2) = ((spot + 2 : Nat) : Int) := by omega
    have eA : ((spot : Int) + 1) = ((spot + 1 : Nat) : Int) := by omega
    unfold rloop at hr
    refine x_cons (x_if (b := rb1 (c :: rest) st) (t_is (b := (Txt.slice text (some (spot : Int)) (some ((spot : Int) + 6)) == "(?>.*?") && (([0, 2] : List Int).contains st && true)) ?_ ?_) (fun h => ?_) (fun h => ?_))
    · repeat' (first | wtm_at "mau" | (exact CmpV.insame st [0, 2]))
      all_goals omega
    · unfold rb1; rw [hs6]
    · rw [if_pos h] at hr
      have h6 := take_len (Bool.and_eq_true_iff.mp h).1 (by decide +kernel)
      rw [List.length_cons, hlr] at h6
      refine x_cons (xs_assign (v := .list (runs.map .str ++ [.str ""])) i38_runs rfl (e_bin (e_var i38_runs rfl rfl rfl d_runs) (e_list (sp_one (fun _ => rfl) e_str) rfl (Nat.le_of_ble_eq_true rfl)) (BinV.addl (by rw [hrv, List.length_singleton]; omega))) rfl (fun _ _ => rfl) (by dsimp only [List.set_cons_zero, List.set_cons_succ] <;> rfl) (Nat.le_of_ble_eq_true rfl) ?_)
      refine x_cons (xs_assign (v := .int 1) i38_state rfl e_int rfl (fun _ _ => rfl) (by dsimp only [List.set_cons_zero, List.set_cons_succ] <;> rfl) (Nat.le_of_ble_eq_true rfl) ?_)
      refine x_cons (xs_assign (v := .int ((spot : Int) + 6)) i38_spot rfl (e_bin (e_var i38_spot rfl rfl rfl d_spot) e_int (BinV.addi _ _)) rfl (fun _ _ => rfl) (by dsimp only [List.set_cons_zero, List.set_cons_succ] <;> rfl) (Nat.le_of_ble_eq_true rfl) (x_nil (x_nil ⟨text.length - (spot + 6), by omega, spot + 6, k, 1, runs ++ [emp], ?_, by simp, by simp; omega, by rw [lastS_app]; exact Nat.zero_le _, by omega, rfl, by rw [hdd]; exact hdl 5, by rw [hdd]; exact hr⟩)))
      rw [List.map_append, eC]; rfl
    rw [if_neg (by rw [h]; exact Bool.false_ne_true)] at hr
    refine x_cons (x_if (b := rb2 c st) (t_is (b := (ch c == ")") && ((st == 1) && true)) ?_ ?_) (fun h => ?_) (fun h => ?_))
    · repeat' (first | wtm_at "mau" | (with_reducible apply hitem))
    · rfl
    · rw [if_pos h] at hr
      refine x_cons (xs_assign (v := .int 2) i38_state rfl e_int rfl (fun _ _ => rfl) (by dsimp only [List.set_cons_zero, List.set_cons_succ] <;> rfl) (Nat.le_of_ble_eq_true rfl) ?_)
      refine x_cons (xs_assign (v := .int ((spot : Int) + 1)) i38_spot rfl (e_bin (e_var i38_spot rfl rfl rfl d_spot) e_int (BinV.addi _ _)) rfl (fun _ _ => rfl) (by dsimp only [List.set_cons_zero, List.set_cons_succ] <;> rfl) (Nat.le_of_ble_eq_true rfl) (x_nil (x_nil (x_nil ⟨text.length - (spot + 1), by omega, spot + 1, k, 2, runs, ?_, hne, by omega, by omega, by omega, rfl, by rw [hdd]; exact hdl 0, by rw [hdd]; exact hr⟩))))
      rw [eA]
    rw [if_neg (by rw [h]; exact Bool.false_ne_true)] at hr
    refine x_cons (x_if (b := rb3 (c :: rest) st) (t_is (b := (Txt.slice text (some (spot : Int)) (some ((spot : Int) + 2)) == ".*") && (([0, 2] : List Int).contains st && true)) ?_ ?_) (fun h => ?_) (fun h => ?_))
    · repeat' (first | wtm_at "mau" | (exact CmpV.insame st [0, 2]))
      all_goals omega
    · unfold rb3; rw [hs2]
    · rw [if_pos h] at hr
      have h6 := take_len (Bool.and_eq_true_iff.mp h).1 (by decide +kernel)
      rw [List.length_cons, hlr] at h6
      refine x_cons (xs_assign (v := .list (runs.map .str ++ [.str ""])) i38_runs rfl (e_bin (e_var i38_runs rfl rfl rfl d_runs) (e_list (sp_one (fun _ => rfl) e_str) rfl (Nat.le_of_ble_eq_true rfl)) (BinV.addl (by rw [hrv, List.length_singleton]; omega))) rfl (fun _ _ => rfl) (by dsimp only [List.set_cons_zero, List.set_cons_succ] <;> rfl) (Nat.le_of_ble_eq_true rfl) ?_)
      refine x_cons (xs_assign (v := .int 3) i38_state rfl e_int rfl (fun _ _ => rfl) (by dsimp only [List.set_cons_zero, List.set_cons_succ] <;> rfl) (Nat.le_of_ble_eq_true rfl) ?_)
      refine x_cons (xs_assign (v := .int ((spot : Int) + 2)) i38_spot rfl (e_bin (e_var i38_spot rfl rfl rfl d_spot) e_int (BinV.addi _ _)) rfl (fun _ _ => rfl) (by dsimp only [List.set_cons_zero, List.set_cons_succ] <;> rfl) (Nat.le_of_ble_eq_true rfl) (x_nil (x_nil (x_nil (x_nil ⟨text.length - (spot + 2), by omega, spot + 2, k, 3, runs ++ [emp], ?_, by simp, by simp; omega, by rw [lastS_app]; exact Nat.zero_le _, by omega, rfl, by rw [hdd]; exact hdl 1, by rw [hdd]; exact hr⟩)))))
      rw [List.map_append, eB]; rfl
    rw [if_neg (by rw [h]; exact Bool.false_ne_true)] at hr
    have hlast : ∀ {p p1 p2 pos : Pos} {σ : List V} (he : ∀ {p : Pos}, EP G n sc38 t (.Name "runs" p) σ (.list (runs.map .str))), EP G n sc38 t (.Subscript (.Name "runs" p) (.UnaryOp .USub (.Constant (.int 1) 0 p1) p2) pos) σ (.str (lastS runs)) := fun he => e_last (fun _ _ => ⟨_, rfl⟩) he (e_is (e_neg e_int) rfl) (last_strV hne)
    refine x_cons (x_if (b := rb4 c (c :: rest) st) (t_is (b := (ch c == "\\") && ((([".", "?", "[", "+"] : List Str).contains (Txt.slice text (some ((spot : Int) + 1)) (some ((spot : Int) + 2)))) && ((st != 2) && true))) ?_ ?_) (fun h => ?_) (fun h => ?_))
    · repeat' (first | wtm_at "mau" | (with_reducible apply hitem) | (exact CmpV.instr _ [".", "?", "[", "+"]))
      all_goals omega
    · unfold rb4; rw [hs1]; rfl
    · rw [if_pos h] at hr
      have hcon := (Bool.and_eq_true_iff.mp (Bool.and_eq_true_iff.mp h).2).1
      have h1r : 1 ≤ rest.length := by
        cases rest with
        | nil => exact absurd (show (([".", "?", "[", "+"] : List Str).contains (S [])) = true from hcon) (by decide +kernel)
        | cons d r => simp
      rw [hlr] at h1r
      obtain ⟨d, hd⟩ : ∃ d, text.cps.toList[spot + 1]? = some d := ⟨_, List.getElem?_eq_getElem (by omega)⟩
      have hr1 : S (rest.take 1) = ch d := by
        rw [← hrest, List.drop_eq_getElem_cons (by omega)]
        rw [List.getElem?_eq_getElem (by omega)] at hd
        cases hd; rfl
      rw [hr1] at hr
      refine x_cons (xs_assign (v := .list (runs.dropLast.map .str ++ [.str (lastS runs ++ ch d)])) i38_runs rfl (e_bin (e_is (e_slice_init (e_var i38_runs rfl rfl rfl d_runs) (e_is (e_neg e_int) rfl) (by omega)) (by rw [List.map_dropLast])) (e_list (sp_one (fun _ => rfl) (e_bin (hlast (e_var i38_runs rfl rfl rfl d_runs)) (e_item_str (c := d) (fun _ _ => ⟨_, rfl⟩) (e_var i38_text rfl rfl rfl d_text) (e_bin (e_var i38_spot rfl rfl rfl d_spot) e_int (BinV.addi _ _)) (by omega) (by omega) (by rw [eA]; simpa using hd)) (BinV.adds ?_))) rfl (Nat.le_of_ble_eq_true rfl)) (BinV.addl (by rw [List.length_map, List.length_dropLast, List.length_singleton]; omega))) rfl (fun _ _ => rfl) (by dsimp only [List.set_cons_zero, List.set_cons_succ] <;> rfl) (Nat.le_of_ble_eq_true rfl) ?_)
      · show _ + 1 ≤ _; omega
      refine x_cons (xs_assign (v := .int ((spot : Int) + 2)) i38_spot rfl (e_bin (e_var i38_spot rfl rfl rfl d_spot) e_int (BinV.addi _ _)) rfl (fun _ _ => rfl) (by dsimp only [List.set_cons_zero, List.set_cons_succ] <;> rfl) (Nat.le_of_ble_eq_true rfl) (x_nil (x_nil (x_nil (x_nil (x_nil ⟨text.length - (spot + 2), by omega, spot + 2, k, st, runs.dropLast ++ [lastS runs ++ ch d], ?_, by simp, by simp; omega, by rw [lastS_app, Str.length_append]; show _ + 1 ≤ _; omega, by omega, rfl, by rw [hdd]; exact hdl 1, by rw [hdd]; exact hr⟩))))))
      rw [List.map_append, eB]; rfl
    rw [if_neg (by rw [h]; exact Bool.false_ne_true)] at hr
    refine x_cons (x_if (b := rb5 c st) (t_is (b := (Txt.contains "ab/" (ch c)) && ((st != 2) && true)) ?_ ?_) (fun h => ?_) (fun h => ?_))
    · repeat' (first | wtm_at "mau" | (with_reducible apply hitem))
    · rfl
    · rw [if_pos h] at hr
      refine x_cons (xs_assign (v := .list (runs.dropLast.map .str ++ [.str (lastS runs ++ ch c)])) i38_runs rfl (e_bin (e_is (e_slice_init (e_var i38_runs rfl rfl rfl d_runs) (e_is (e_neg e_int) rfl) (by omega)) (by rw [List.map_dropLast])) (e_list (sp_one (fun _ => rfl) (e_bin (hlast (e_var i38_runs rfl rfl rfl d_runs)) hitem (BinV.adds ?_))) rfl (Nat.le_of_ble_eq_true rfl)) (BinV.addl (by rw [List.length_map, List.length_dropLast, List.length_singleton]; omega))) rfl (fun _ _ => rfl) (by dsimp only [List.set_cons_zero, List.set_cons_succ] <;> rfl) (Nat.le_of_ble_eq_true rfl) ?_)
      · show _ + 1 ≤ _; omega
      refine x_cons (xs_assign (v := .int ((spot : Int) + 1)) i38_spot rfl (e_bin (e_var i38_spot rfl rfl rfl d_spot) e_int (BinV.addi _ _)) rfl (fun _ _ => rfl) (by dsimp only [List.set_cons_zero, List.set_cons_succ] <;> rfl) (Nat.le_of_ble_eq_true rfl) (x_nil (x_nil (x_nil (x_nil (x_nil (x_nil ⟨text.length - (spot + 1), by omega, spot + 1, k, st, runs.dropLast ++ [lastS runs ++ ch c], ?_, by simp, by simp; omega, by rw [lastS_app, Str.length_append]; show _ + 1 ≤ _; omega, by omega, rfl, by rw [hdd]; exact hdl 0, by rw [hdd]; exact hr⟩)))))))
      rw [List.map_append, eA]; rfl
    · rw [if_neg (by rw [h]; exact Bool.false_ne_true)] at hr
      refine x_cons (x_return (v := .list []) (e_list sp_nil rfl (Nat.le_of_ble_eq_true rfl)) rfl ?_)
      rw [← hr]; rfl
  · have hge : spot = text.length := by have := of_decide_eq_false hb; omega
    rw [hge, ← hL, List.drop_length] at hr
    have hr' : (if (st == 3) = true then runs else []) = R := by
      cases k <;> exact hr
    refine x_cons (x_return ?_ rfl rfl)
    refine e_if (b := st == 3) (t_cmpv rfl (e_var i38_state rfl rfl rfl d_state) e_int (CmpV.eqi _ _)) (fun h => ?_) (fun h => ?_)
    · rw [← hr', if_pos h]
      exact e_var i38_runs rfl rfl rfl d_runs
    · rw [← hr', if_neg (by rw [h]; exact Bool.false_ne_true)]
      exact e_list sp_nil rfl (Nat.le_of_ble_eq_true rfl)
end
section
variable {G : Gl} {n : Nat} {t : Bool}
theorem s_reaches (H : Fns G) {rule head pat : Str} {places : List Str} {r0 rl : Str} {mid : List Str} (hr : rule.length ≤ 100000) (hh : head.length ≤ 5000) (hpat : pat = if Txt.contains head "*" = true then head else "*" ++ head) (hpa : pat.cps.all (· < 128) = true)
    (hruns : runsN rule.cps.toList = r0 :: (mid ++ [rl])) (h0 : r0.length ≤ 100000) (h1 : ∀ r ∈ mid, r.length ≤ 100000) (h2 : rl.length ≤ 100000) (h4 : mid.length ≤ 100000) (hpl : ∀ p ∈ places, p.length ≤ 90000)
    (heq : ∀ p ∈ places, reachN r0 mid rl p = farN pat.cps.toList p.cps.toList) : CallN G (n + 2) t "_law_reaches" [.str rule, .str head, .list (places.map .str)] (.bool true) := by
  refine calln ["rule", "head", "places"] 3 H.f41 k41 (by decide +kernel) (fun _ _ _ _ _ vals h => by obtain ⟨v, w, u, rfl⟩ := len3 h; rfl) rfl (by simp [V.plain]) ?_
  show EX G (n + 1) sc41 t bd41 [.str rule, .str head, .list (places.map .str), .unb, .unb, .unb] _
  unfold bd41
  have e1 : ("*" : Str).length = 1 := by decide +kernel
  have hpatl : pat.length ≤ 10000 := by
    rw [hpat]; split
    · omega
    · rw [Str.length_append, e1]; omega
  refine x_cons (xs_assign (v := .list ((r0 :: (mid ++ [rl])).map .str)) i41_runs rfl (e_gcall g41__law_runs d__law_runs (fun _ => rfl) (fun _ _ => rfl) (sp_one (fun _ => rfl) (e_var i41_rule rfl rfl rfl d_rule)) (hruns ▸ s_runs (n := n) H hr)) rfl (fun _ _ => rfl) rfl (Nat.le_of_ble_eq_true rfl) ?_)
  dsimp only [List.set_cons_zero, List.set_cons_succ]
  refine x_cons (x_if (b := decide ((r0 :: (mid ++ [rl])) = [])) (t_cmp (e_eq_strs (xs := r0 :: (mid ++ [rl])) (ys := []) (e_var i41_runs rfl rfl rfl d_runs).loan (e_list sp_nil rfl (Nat.le_of_ble_eq_true rfl)).loan rfl) rfl) (fun h => by simp at h) (fun _ => x_nil ?_))
  refine x_cons (xs_assign (v := .str pat) i41_pattern rfl ?_ rfl (fun _ _ => rfl) (by dsimp only [List.set_cons_zero, List.set_cons_succ] <;> rfl) (Nat.le_of_ble_eq_true rfl) ?_)
  · refine e_if (b := Txt.contains head "*") (t_cmpv rfl e_str (e_var i41_head rfl rfl rfl d_head) (CmpV.ins _ _)) (fun h => ?_) (fun h => ?_)
    · rw [hpat, if_pos h]; exact e_var i41_head rfl rfl rfl d_head
    · rw [hpat, if_neg (by rw [h]; exact Bool.false_ne_true)]
      exact e_bin e_str (e_var i41_head rfl rfl rfl d_head) (BinV.adds (by rw [e1]; omega))
  refine x_cons (x_for_strs (fun i σ' => ∃ w : V, σ' = [.str rule, .str head, .list (places.map .str), .list ((r0 :: (mid ++ [rl])).map .str), .str pat, w]) i41_place rfl (e_var i41_places rfl rfl rfl d_places) (fun _ _ => rfl) ⟨_, rfl⟩ ?_ ?_)
  · rintro i p σ' hp ⟨w, rfl⟩
    refine ⟨Nat.le_of_ble_eq_true rfl, ?_⟩
    dsimp only [List.set_cons_zero, List.set_cons_succ]
    have hm := List.mem_of_getElem? hp
    have hl := hpl p hm
    refine x_cons (x_if (b := (reachN r0 mid rl p != farN pat.cps.toList p.cps.toList)) (t_cmpv rfl
      (e_gcall g41__law_reach d__law_reach (fun _ => rfl) (fun _ _ => rfl) (sp_cons (fun _ => rfl) (e_var i41_runs rfl rfl rfl d_runs) (sp_one (fun _ => rfl) (e_var i41_place rfl rfl rfl d_place)) rfl) (s_reach (n := n) H h0 h1 h2 (by omega) h4))
      (e_gcall g41__law_farthest d__law_farthest (fun _ => rfl) (fun _ _ => rfl) (sp_cons (fun _ => rfl) (e_var i41_pattern rfl rfl rfl d_pattern) (sp_one (fun _ => rfl) (e_var i41_place rfl rfl rfl d_place)) rfl) (s_farthest (n := n) H hpatl hl hpa)) (CmpV.nei _ _)) (fun h => ?_) (fun _ => x_nil (x_nil ⟨_, rfl⟩)))
    rw [heq p hm] at h
    simp at h
  · rintro σ' ⟨w, rfl⟩
    exact x_cons (x_return e_bool rfl rfl)
end
section
variable {G : Gl} {n : Nat} {t : Bool}
theorem sp_k {F : Scope} {σ : List V} {pos : Pos} {x : Str} {k : Nat} {p : Pos} {es : List Expr} {vs : List V} (h : SP G n F t pos es σ vs) : SP G n F t pos (.Constant (.str x) k p :: es) σ (.str x :: vs) := sp_cons (fun _ => rfl) e_str h rfl
noncomputable def wordsN : List Str := ["a", "*", "b*", "..", "a?", "[b", "*.a", "/b", ".", "", "b/*", "*+*"]
noncomputable def wordN (d : Int) : Str := (wordsN[(d.fmod 12).toNat]?).getD ""
noncomputable def lastW : Str := "a*b"
noncomputable def partsN (ds : List Int) : List Str := ds.map wordN ++ [lastW]
noncomputable def wordV : V → V
  | .int d => .str (wordN d)
  | v => v
theorem s_parts (H : Fns G) {ds : List Int} (hl : ds.length ≤ 1000) : CallN G (n + 1) t "_law_parts" [.list (ds.map .int)] (.list ((partsN ds).map .str)) := by
  refine calln ["draws"] 1 H.f31 k31 (by decide +kernel) (fun _ _ _ _ _ vals h => by obtain ⟨v, rfl⟩ := len1 h; rfl) rfl (by simp [V.plain]) ?_
  show EX G n sc31 t bd31 [.list (ds.map .int), .unb] _
  unfold bd31
  obtain ⟨wv, hwv⟩ : ∃ wv, wv = wordsN.map V.str := ⟨_, rfl⟩
  have hw1 : atoms wv = true := by rw [hwv]; decide +kernel
  have hw2 : wv.length ≤ 1000 := by rw [hwv]; decide +kernel
  show EX G n sc31 t (_ :: _) _ _
  with_reducible refine x_cons_assign (k := 1) (kd := .cell) (v := .list wv) (σ' := [.list (ds.map .int), .list wv]) i31_words ?_ ?_ ?_ ?_ ?_ ?_ ?_
  · rfl
  · exact fun _ _ => rfl
  rotate_left
  · rfl
  · rfl
  · exact Nat.le_of_ble_eq_true rfl
  rotate_left
  · with_reducible refine e_list ?_ hw1 hw2
    rw [hwv]
    show SP _ _ _ _ _ _ _ [V.str "a", V.str "*", V.str "b*", V.str "..", V.str "a?", V.str "[b", V.str "*.a", V.str "/b", V.str ".", V.str "", V.str "b/*", V.str "*+*"]
    with_reducible exact sp_k (sp_k (sp_k (sp_k (sp_k (sp_k (sp_k (sp_k (sp_k (sp_k (sp_k (sp_k sp_nil)))))))))))
  have hlv : (ds.map V.int).length = ds.length := List.length_map ..
  show EX G n sc31 t (_ :: _) _ _
  with_reducible refine x_cons_return (v := .list ((partsN ds).map .str)) ?_ ?_ ?_
  rotate_left
  · rfl
  · rfl
  with_reducible refine e_is (v := .list ((ds.map wordN).map .str ++ [.str "a*b"])) ?_ ?_
  rotate_left
  · unfold partsN; rw [List.map_append]; rfl
  with_reducible refine EF.ep ?_
  with_reducible refine f_add_list ?_ ?_ ?_
  rotate_left
  · with_reducible refine e_list ?_ ?_ ?_
    · with_reducible refine sp_one ?_ ?_
      · exact fun _ => rfl
      · exact e_str
    · rfl
    · exact Nat.le_of_ble_eq_true rfl
  · rw [List.length_map, List.length_map, List.length_singleton]; omega
  with_reducible refine EP.weak ?_
  with_reducible refine EF.ep ?_
  with_reducible refine f_is (v := (((List.range ds.length).map fun i => V.int ((ds[i]?).getD 0)).filter (fun _ => true)).map wordV) ?_ ?_
  rotate_left
  · rw [filter_true]
    have e : (List.range ds.length).map (fun i => V.int ((ds[i]?).getD 0)) = ds.map V.int := by
      conv => rhs; rw [← range_getD ds 0]
      rw [List.map_map]; rfl
    rw [e, List.map_map, List.map_map]; rfl
  with_reducible refine f_comp (src := .list (ds.map .int)) (N := ds.length) (vs := fun i => .int ((ds[i]?).getD 0)) (kx := 1) (fun _ => true) wordV (fun v => [.unb, v, .list wv]) ?_ ?_ ?_ ?_ ?_ ?_ ?_ ?_ ?_ ?_ ?_ ?_ ?_ ?_ ?_ ?_
  · exact e_var i31_draws rfl rfl rfl d_draws
  · exact fun _ _ => rfl
  · refine ⟨hlv.symm, ?_⟩
    intro i hi
    rw [List.getElem?_map]
    show _ = some (V.int ((ds[i]?).getD 0))
    rw [List.getElem?_eq_getElem hi]; rfl
  · omega
  · exact fun _ _ => trivial
  · refine clo_of (by decide +kernel) (by decide +kernel) ?_
    intro k y hk
    match k, hk with
    | 0, hk => exact absurd (Prod.mk.inj (Option.some.inj hk)).2 (by decide)
    | 1, hk => exact absurd (Prod.mk.inj (Option.some.inj hk)).2 (by decide)
    | 2, hk => cases (Prod.mk.inj (Option.some.inj hk)).1; exact ⟨1, i31_words, fun v w h1 h2 => by cases h1; exact ⟨rfl, rfl⟩⟩
    | k + 3, hk => cases hk
  · decide +kernel
  · rfl
  · decide +kernel
  · decide +kernel
  · decide +kernel
  · decide +kernel
  · exact fun _ => rfl
  · intro v k y u h1 h2 h3
    have h4 := congrArg (Option.map (·.2)) h1
    simp only [Option.map_some] at h4
    match k, h2 with
    | 0, h2 => cases h2; exact absurd rfl h3
    | 1, h2 => rfl
    | 2, h2 => exact absurd h4 (by decide +kernel)
    | k + 3, h2 => cases h2
  · intro i hi
    rfl
  · intro i hi _
    refine ⟨?_, rfl⟩
    show EP _ _ _ _ _ _ (.str (wordN ((ds[i]?).getD 0)))
    generalize (ds[i]?).getD 0 = d
    have hd0 : 0 ≤ d.fmod 12 := Int.fmod_nonneg_of_pos _ (by decide)
    have hd1 : d.fmod 12 < 12 := Int.fmod_lt_of_pos _ (by decide)
    with_reducible refine e_item (i := d.fmod 12) (l := wv) ?_ ?_ ?_ ?_ ?_ ?_
    · exact fun _ _ => ⟨_, rfl⟩
    · exact EP.loan (e_var (k := 2) (kd := .cell) (by decide +kernel) rfl rfl rfl (by decide +kernel))
    · with_reducible refine e_bin (v := .int d) (w := .int 12) ?_ ?_ ?_
      rotate_left
      · exact e_int
      · exact BinV.modi (by decide)
      · exact e_var (k := 1) (kd := .local) (by decide +kernel) rfl rfl rfl (by decide +kernel)
    · exact hd0
    · omega
    · have hlt : (d.fmod 12).toNat < wordsN.length := by show _ < 12; omega
      rw [hwv, List.getElem?_map]
      unfold wordN
      rw [List.getElem?_eq_getElem hlt]; rfl
end
section
variable {G : Gl} {n : Nat} {t : Bool}
noncomputable def fillsN : List Str := ["a", "", "/", "ab"]
noncomputable def pickN (sp : List Int) (turn : Nat) : Str := (fillsN[((((sp[turn % sp.length]?).getD 0).fdiv 12).fmod 4).toNat]?).getD ""
noncomputable def plStep (sp : List Int) (st : Str × Nat) (c : Nat) : Str × Nat := if (ch c == "*") = true then (st.1 ++ pickN sp st.2, st.2 + 1) else (st.1 ++ ch c, st.2)
noncomputable def emptyS : Str := ""
noncomputable def placeN (L : List Nat) (sp : List Int) : Str := (L.foldl (plStep sp) (emptyS, 0)).1
noncomputable def placesN (p : Str) : List Str := [p, p ++ "b", Txt.slice p (some 1) none, dirN p]
theorem pick_len (sp : List Int) (turn : Nat) : (pickN sp turn).length ≤ 2 := by
  unfold pickN
  generalize ((((sp[turn % sp.length]?).getD 0).fdiv 12).fmod 4).toNat = k
  match k with
  | 0 => decide +kernel
  | 1 => decide +kernel
  | 2 => decide +kernel
  | 3 => decide +kernel
  | k + 4 => exact Nat.le_of_ble_eq_true (by show Nat.ble (("" : Str).length) 2 = true; decide +kernel)
theorem plStep_len (sp : List Int) (st : Str × Nat) (c : Nat) : (plStep sp st c).1.length ≤ st.1.length + 2 ∧ (plStep sp st c).2 ≤ st.2 + 1 := by
  unfold plStep
  have e : (ch c).length = 1 := rfl
  have := pick_len sp st.2
  split
  · rw [Str.length_append]; omega
  · rw [Str.length_append, e]; omega
theorem plFold_len (sp : List Int) : ∀ (l : List Nat) (st : Str × Nat), (l.foldl (plStep sp) st).1.length ≤ st.1.length + 2 * l.length ∧ (l.foldl (plStep sp) st).2 ≤ st.2 + l.length
  | [], st => ⟨by simp, by simp⟩
  | c :: l, st => by
    have h1 := plFold_len sp l (plStep sp st c)
    have h2 := plStep_len sp st c
    rw [List.foldl_cons, List.length_cons]
    omega
theorem s_places (H : Fns G) {x : Str} {ds : List Int} (hx : x.length ≤ 20000) (ha : x.cps.all (· < 128) = true) (hd : ds.length ≤ 1000) :
    CallN G (n + 3) t "_law_places" [.str x, .list (ds.map .int)] (.list ((placesN (placeN x.cps.toList (ds ++ [0]))).map .str)) := by
  refine calln ["straight", "draws"] 4 H.f35 k35 (by decide +kernel) (fun _ _ _ _ _ vals h => by obtain ⟨v, w, rfl⟩ := len2 h; rfl) rfl (by simp [V.plain]) ?_
  show EX G (n + 2) sc35 t bd35 [.str x, .list (ds.map .int), .unb, .unb, .unb, .unb] _
  unfold bd35
  have hspl : (ds ++ [0]).length = ds.length + 1 := by simp
  have hspv : ((ds ++ [0]).map V.int).length = ds.length + 1 := by simp
  have hvs : ds.map V.int ++ [V.int 0] = (ds ++ [0]).map V.int := by rw [List.map_append]; rfl
  refine x_cons (xs_assign (v := .list ((ds ++ [0]).map V.int)) i35_spare rfl ?_ rfl (fun _ _ => rfl) rfl (Nat.le_of_ble_eq_true rfl) ?_)
  · rw [← hvs]
    exact e_bin (e_var i35_draws rfl rfl rfl d_draws) (e_list (sp_one (fun _ => rfl) e_int) rfl (Nat.le_of_ble_eq_true rfl)) (BinV.addl (by rw [List.length_map, List.length_singleton]; omega))
  generalize hsp : ds ++ [0] = sp at *
  refine x_cons (xs_assign (v := .str "") i35_place rfl e_str rfl (fun _ _ => rfl) (by dsimp only [List.set_cons_zero, List.set_cons_succ] <;> rfl) (Nat.le_of_ble_eq_true rfl) ?_)
  refine x_cons (xs_assign (v := .int 0) i35_turn rfl e_int rfl (fun _ _ => rfl) (by dsimp only [List.set_cons_zero, List.set_cons_succ] <;> rfl) (Nat.le_of_ble_eq_true rfl) ?_)
  have hL : x.cps.toList.length = x.length := by simp [Str.length]
  refine x_cons (x_for_str (y := x) (fun i σ' => ∃ (w : V) (p : Str) (k : Nat), (x.cps.toList.take i).foldl (plStep sp) (emptyS, 0) = (p, k) ∧ σ' = [.str x, .list (ds.map .int), .list (sp.map .int), .str p, .int k, w]) i35_mark rfl (e_var i35_straight rfl rfl rfl d_straight) (fun _ _ => rfl) ha ⟨_, _, _, rfl, rfl⟩ ?_ ?_)
  · rintro i c σ' hc ⟨w, p, k, hpk, rfl⟩
    refine ⟨Nat.le_of_ble_eq_true rfl, ?_⟩
    dsimp only [List.set_cons_zero, List.set_cons_succ]
    have hc' : x.cps.toList[i]? = some c := by simpa using hc
    have hi : i < x.cps.toList.length := (List.getElem?_eq_some_iff.mp hc').1
    have hb := plFold_len sp (x.cps.toList.take i) (emptyS, 0)
    rw [hpk, List.length_take] at hb
    have e0 : emptyS.length = 0 := by decide +kernel
    have hb1 : p.length ≤ 40000 := by have := hb.1; simp only [e0] at this; omega
    have hb2 : k ≤ 20000 := by have := hb.2; simp only at this; omega
    have hstep : (x.cps.toList.take (i + 1)).foldl (plStep sp) (emptyS, 0) = plStep sp (p, k) c := by rw [fold_take hc', hpk]
    have hw : ∀ {q : Pos}, EP G (n + 2) sc35 t (.Name "place" q) [.str x, .list (ds.map .int), .list (sp.map .int), .str p, .int k, .str (ch c)] (.str p) := e_var i35_place rfl rfl rfl d_place
    refine x_cons (x_if (b := (ch c == "*")) (t_cmpv rfl (e_var i35_mark rfl rfl rfl d_mark) e_str (CmpV.eqs _ _)) (fun h => ?_) (fun h => ?_))
    · refine x_cons (xs_assign (v := .str (p ++ pickN sp k)) i35_place rfl ?_ rfl (fun _ _ => rfl) (by dsimp only [List.set_cons_zero, List.set_cons_succ] <;> rfl) (Nat.le_of_ble_eq_true rfl) ?_)
      · have hspp : 0 < sp.length := by omega
        have hfm : ((k : Int).fmod (sp.length : Int)) = ((k % sp.length : Nat) : Int) := by
          rw [Int.fmod_eq_emod_of_nonneg _ (by omega)]; rfl
        have hlt : k % sp.length < sp.length := Nat.mod_lt _ hspp
        with_reducible refine e_bin (v := .str p) (w := .str (pickN sp k)) hw ?_ (BinV.adds (by have := pick_len sp k; omega))
        generalize hsv : (sp[k % sp.length]?).getD 0 = sv
        have hpick : pickN sp k = (fillsN[((sv.fdiv 12).fmod 4).toNat]?).getD "" := by unfold pickN; rw [hsv]
        rw [hpick]
        have hd0 : 0 ≤ (sv.fdiv 12).fmod 4 := Int.fmod_nonneg_of_pos _ (by decide)
        have hd1 : (sv.fdiv 12).fmod 4 < 4 := Int.fmod_lt_of_pos _ (by decide)
        have hlt4 : ((sv.fdiv 12).fmod 4).toNat < fillsN.length := by show _ < 4; omega
        with_reducible refine e_item (i := (sv.fdiv 12).fmod 4) (l := fillsN.map .str) ?_ ?_ ?_ hd0 ?_ ?_
        · exact fun _ _ => ⟨_, rfl⟩
        · refine EP.loan ?_
          with_reducible refine e_list (vs := fillsN.map .str) ?_ ?_ ?_
          · show SP _ _ _ _ _ _ _ [V.str "a", V.str "", V.str "/", V.str "ab"]
            with_reducible exact sp_k (sp_k (sp_k (sp_k sp_nil)))
          · rfl
          · exact Nat.le_of_ble_eq_true rfl
        · with_reducible refine e_bin (v := .int (sv.fdiv 12)) (w := .int 4) ?_ e_int (BinV.modi (by decide))
          with_reducible refine e_bin (v := .int sv) (w := .int 12) ?_ e_int (BinV.divi (by decide) ?_)
          · with_reducible refine e_item (i := (k : Int).fmod (sp.length : Int)) (l := sp.map .int) ?_ ?_ ?_ ?_ ?_ ?_
            · exact fun _ _ => ⟨_, rfl⟩
            · exact EP.loan (e_var i35_spare rfl rfl rfl d_spare)
            · with_reducible refine e_bin (v := .int k) (w := .int sp.length) ?_ ?_ (BinV.modi (by omega))
              · exact e_var i35_turn rfl rfl rfl d_turn
              · refine e_is (e_bcall g35_len H.n_len bb_len nn_len d_len (fun _ => rfl) (fun _ _ => rfl) (sp_one (fun _ => rfl) (e_var i35_spare rfl rfl rfl d_spare)) (c_len_list (by rw [List.length_map]; omega))) (by rw [List.length_map])
            · rw [hfm]; omega
            · rw [hfm]; omega
            · rw [hfm, Int.toNat_natCast, List.getElem?_map, ← hsv, List.getElem?_eq_getElem hlt]; rfl
          · simp [Builtin.divisionGoesByPylong]
            intro h; exact absurd h (by decide +kernel)
        · omega
        · rw [List.getElem?_map, List.getElem?_eq_getElem hlt4]; rfl
      refine x_cons (xs_assign (v := .int ((k : Int) + 1)) i35_turn rfl (e_bin (e_var i35_turn rfl rfl rfl d_turn) e_int (BinV.addi _ _)) rfl (fun _ _ => rfl) (by dsimp only [List.set_cons_zero, List.set_cons_succ] <;> rfl) (Nat.le_of_ble_eq_true rfl) (x_nil (x_nil ⟨.str (ch c), p ++ pickN sp k, k + 1, ?_, rfl⟩)))
      rw [hstep]; unfold plStep; rw [if_pos h]
    · refine x_cons (xs_assign (v := .str (p ++ ch c)) i35_place rfl (e_bin hw (e_var i35_mark rfl rfl rfl d_mark) (BinV.adds (by show _ + 1 ≤ _; omega))) rfl (fun _ _ => rfl) (by dsimp only [List.set_cons_zero, List.set_cons_succ] <;> rfl) (Nat.le_of_ble_eq_true rfl) (x_nil (x_nil ⟨.str (ch c), p ++ ch c, k, ?_, rfl⟩)))
      rw [hstep]; unfold plStep; rw [if_neg (by rw [h]; exact Bool.false_ne_true)]
  · rintro σ' ⟨w, p, k, hpk, rfl⟩
    have hs : x.cps.size = x.cps.toList.length := by simp
    have hb := plFold_len sp (x.cps.toList.take x.cps.size) (emptyS, 0)
    rw [hpk, List.length_take] at hb
    have e0 : emptyS.length = 0 := by decide +kernel
    have hb1 : p.length ≤ 40000 := by have := hb.1; simp only [e0] at this; omega
    rw [hs, List.take_length] at hpk
    have hp : placeN x.cps.toList sp = p := by unfold placeN; rw [hpk]
    rw [hp]
    have e1 : ("b" : Str).length = 1 := by decide +kernel
    show EX _ _ _ _ (_ :: _) _ _
    with_reducible refine x_cons_return (v := .list ((placesN p).map .str)) ?_ ?_ ?_
    · with_reducible refine e_list (vs := (placesN p).map .str) ?_ ?_ ?_
      · show SP _ _ _ _ _ _ _ [V.str p, V.str (p ++ "b"), V.str (Txt.slice p (some 1) none), V.str (dirN p)]
        repeat' (first | wtm_at "mau" | (with_reducible apply s_dirname (n := n) H (x := p) (by omega)))
        all_goals omega
      · rfl
      · exact Nat.le_of_ble_eq_true rfl
    · rfl
    · rfl
end
section
variable {G : Gl} {n : Nat} {t : Bool}
noncomputable def tokV (a : Addr) : Option Str → V
  | none => .raw (.ref a)
  | some x => .str x
noncomputable def lead : List (Option Str) → List Str
  | some x :: r => x :: lead r
  | _ => []
noncomputable def rest' : List (Option Str) → List (Option Str)
  | some _ :: r => rest' r
  | l => l
noncomputable def jloop : Nat → List (Option Str) → List Str → List Str
  | _, [], res => res
  | 0, _ :: _, res => res
  | k + 1, _ :: r, res =>
    if r.isEmpty = true then res ++ [(".*" : Str)]
    else if (rest' r).isEmpty = true then res ++ [(".*" : Str)] ++ [Txt.join "" (lead r)]
    else jloop k (rest' r) (res ++ ["(?>.*?" ++ Txt.join "" (lead r) ++ ")"])
noncomputable def joinTok (toks : List (Option Str)) : Str := "(?s:" ++ Txt.join "" (jloop toks.length (rest' toks) (lead toks)) ++ ")\\Z"
/-- no two stars side by side -/
noncomputable def Gap : List (Option Str) → Prop
  | none :: none :: _ => False
  | _ :: r => Gap r
  | [] => True
theorem tok_get {a : Addr} {toks : List (Option Str)} {i : Nat} {x : Option Str} (h : toks[i]? = some x) : (toks.map (tokV a))[i]? = some (tokV a x) := by rw [List.getElem?_map, h]; rfl
noncomputable def isText (toks : List (Option Str)) (i : Nat) : Bool := match toks[i]? with
  | some (some _) => true
  | _ => false
section
variable {a : Addr} {toks : List (Option Str)} {σ : List V} {i : Nat} {p1 p2 p3 p4 p5 p6 p7 p8 p9 : Pos}
theorem e_tok (h0 : σ[0]? = some (.list (toks.map (tokV a)))) (h4 : σ[4]? = some (.int i)) (hi : i ≤ 100000) {x : Option Str} (hx : toks[i]? = some x) :
    EP G n sc11 t (.Subscript (.Name "inp" p4) (.Name "i" p5) p6) σ (tokV a x) := by
  with_reducible refine e_item (i := (i : Int)) (l := toks.map (tokV a)) ?_ ?_ ?_ ?_ ?_ ?_
  · exact fun _ _ => ⟨_, rfl⟩
  · exact EP.loan (e_var i11_inp rfl h0 rfl d_inp)
  · exact e_var i11_i rfl h4 rfl d_i
  · omega
  · omega
  · exact tok_get hx
theorem t_star (h0 : σ[0]? = some (.list (toks.map (tokV a)))) (h1 : σ[1]? = some (.raw (.ref a))) (h4 : σ[4]? = some (.int i)) (h5 : σ[5]? = some (.int toks.length)) (hi : i ≤ 100000) :
    ET G n sc11 t (.BoolOp .And [.Compare (.Name "i" p1) [.Lt] [.Name "n" p2] p3, .Compare (.Subscript (.Name "inp" p4) (.Name "i" p5) p6) [.IsNot] [.Name "STAR" p7] p8] p9) σ (isText toks i) := by
  have c1 : ET G n sc11 t (.Compare (.Name "i" p1) [.Lt] [.Name "n" p2] p3) σ (decide ((i : Int) < toks.length)) := t_cmpv rfl (e_var i11_i rfl h4 rfl d_i) (e_var i11_n rfl h5 rfl d_n) (CmpV.lti _ _)
  have hs : EP G n sc11 t (.Name "STAR" p7) σ (.raw (.ref a)) := e_var i11_STAR rfl h1 rfl d_STAR
  unfold isText
  cases hx : toks[i]? with
  | none =>
    have hge : toks.length ≤ i := List.getElem?_eq_none_iff.mp hx
    exact t_bool (tl_and_miss (t_is c1 (by rw [decide_eq_false_iff_not]; omega)))
  | some x =>
    have hlt : i < toks.length := (List.getElem?_eq_some_iff.mp hx).1
    have c1' := t_is c1 (c := true) (by rw [decide_eq_true_iff]; omega)
    cases x with
    | none => exact t_bool (tl_and_hit c1' (tl_and_miss (t_cmpv rfl (e_tok h0 h4 hi hx) hs (CmpV.isnotself _))))
    | some x => exact t_bool (tl_and_hit c1' (tl_and_hit (t_cmpv rfl (e_tok h0 h4 hi hx) hs (CmpV.isnotstr _ _)) tl_and_nil))
end
theorem lead_step {toks : List (Option Str)} {i : Nat} {x : Str} (h : toks[i]? = some (some x)) : lead (toks.drop i) = x :: lead (toks.drop (i + 1)) ∧ rest' (toks.drop i) = rest' (toks.drop (i + 1)) := by
  have hlt : i < toks.length := (List.getElem?_eq_some_iff.mp h).1
  rw [List.drop_eq_getElem_cons hlt]
  rw [List.getElem?_eq_getElem hlt] at h
  rw [Option.some.inj h]
  exact ⟨rfl, rfl⟩
theorem lead_stop {toks : List (Option Str)} {i : Nat} (h : isText toks i = false) : lead (toks.drop i) = [] ∧ rest' (toks.drop i) = toks.drop i := by
  unfold isText at h
  cases hx : toks[i]? with
  | none =>
    have hge : toks.length ≤ i := List.getElem?_eq_none_iff.mp hx
    rw [List.drop_eq_nil_of_le hge]; exact ⟨rfl, rfl⟩
  | some x =>
    have hlt : i < toks.length := (List.getElem?_eq_some_iff.mp hx).1
    cases x with
    | some x => rw [hx] at h; cases h
    | none =>
      rw [List.drop_eq_getElem_cons hlt]
      rw [List.getElem?_eq_getElem hlt] at hx
      rw [Option.some.inj hx]
      exact ⟨rfl, rfl⟩
theorem gap_at : ∀ {toks : List (Option Str)} {i : Nat}, Gap toks → toks[i]? = some none → toks[i + 1]? = some none → False
  | [], _, _, h, _ => by simp at h
  | none :: none :: _, _, h, _, _ => h
  | none :: some x :: r, 0, _, _, h2 => by simp at h2
  | none :: some x :: r, i + 1, h, h1, h2 => gap_at (toks := some x :: r) (i := i) h (by simpa using h1) (by simpa using h2)
  | [none], 0, _, _, h2 => by simp at h2
  | [none], i + 1, _, h1, _ => by simp at h1
  | some x :: r, 0, _, h1, _ => by simp at h1
  | some x :: r, i + 1, h, h1, h2 => gap_at (toks := r) (i := i) h (by simpa using h1) (by simpa using h2)
theorem s_jtp (H : Fns G) {a : Addr} {toks : List (Option Str)} (hl : toks.length ≤ 10000) (hg : Gap toks) (hsz : ∀ k, (Txt.join "" (lead (toks.drop k))).length ≤ 100000 ∧ ((lead (toks.drop k)).map (·.length)).sum ≤ 100000)
    (hfin : ((jloop toks.length (rest' toks) (lead toks)).map (·.length)).sum ≤ 100000 ∧ (Txt.join "" (jloop toks.length (rest' toks) (lead toks))).length ≤ 100000) :
    CallN G (n + 1) t "_join_translated_parts" [.list (toks.map (tokV a)), .raw (.ref a)] (.str (joinTok toks)) := by
  refine calln ["inp", "STAR"] 5 H.f11 k11 (by decide +kernel) (fun _ _ _ _ _ vals h => by obtain ⟨v, w, rfl⟩ := len2 h; rfl) rfl (by simp [V.plain]) ?_
  show EX G n sc11 t bd11 [.list (toks.map (tokV a)), .raw (.ref a), .unb, .unb, .unb, .unb, .unb] _
  unfold bd11
  have hlv : (toks.map (tokV a)).length = toks.length := List.length_map ..
  have hint : ∀ env : Env, env.scope = sc11 → interactive env = false := fun _ h => by unfold interactive; rw [h]; rfl
  have hsw : ∀ {p1 p2 p3 p4 p5 p6 p7 p8 : Pos} (env : Env), env.scope = sc11 → (p1.line == p2.line) = true → swappedStores [.Tuple [.Name "i" p1, .Name "n" p2] 0 p3] (.Tuple [.Constant (.int 0) 0 p4, .Call (.Name "len" p5) [.Name "inp" p6] [] p7] 0 p8) env = pure (some [("i" : Str), ("n" : Str)]) := by
    intro p1 p2 p3 p4 p5 p6 p7 p8 env h hp
    have hk : env.blockKind = .function := by unfold Env.blockKind; rw [h]; decide +kernel
    have h1 : env.kindOf "i" = some .local := by unfold Env.kindOf; rw [h]; exact (idx_at i11_i).2
    have h2 : env.kindOf "n" = some .local := by unfold Env.kindOf; rw [h]; exact (idx_at i11_n).2
    have hp' : (p2.line == p1.line) = true := by rw [beq_iff_eq] at hp ⊢; exact hp.symm
    have hpos : (Expr.Name "i" p1).pos = p1 := rfl
    unfold swappedStores
    simp only [List.filterMap_cons, List.filterMap_nil, List.head?_cons, Option.map_some, Option.getD_some, hk, h1, h2, hpos, hp', beq_self_eq_true, Bool.and_true, if_true]
    kernel_rfl
  refine x_cons (x_assign_own (l := []) i11_res rfl (f_list sp_nil rfl (Nat.zero_le _)) (Nat.le_of_ble_eq_true rfl) (by simp) (fun _ _ => rfl) ?_)
  refine x_cons (x_assign_bound i11_add rfl i11_res rfl (l := []) rfl d_res (fun _ _ => rfl) (Nat.le_of_ble_eq_true rfl) (fun _ _ => rfl) ?_)
  refine x_cons (x_pair (v := .int 0) (w := .int toks.length) i11_i rfl i11_n rfl (e_tuple (sp_cons (fun _ => rfl) e_int (sp_one (fun _ => rfl) (e_bcall g11_len H.n_len bb_len nn_len d_len (fun _ => rfl) (fun _ _ => rfl) (sp_one (fun _ => rfl) (e_var i11_inp rfl rfl rfl d_inp)) (hlv ▸ c_len_list (by rw [hlv]; omega)))) rfl) rfl (Nat.le_of_ble_eq_true rfl)) (Nat.le_of_ble_eq_true rfl) (Nat.le_of_ble_eq_true rfl) (fun _ _ => rfl) (fun env h => hsw env h rfl) ?_)
  dsimp only [List.set_cons_zero, List.set_cons_succ]
  refine x_cons (x_while (fun m σ' => ∃ (i : Nat) (res : List Str), σ' = [.list (toks.map (tokV a)), .raw (.ref a), .own (res.map .str), .bound 2, .int i, .int toks.length, .unb] ∧ i ≤ toks.length ∧ res.length ≤ i ∧ m = toks.length - i ∧ res ++ lead (toks.drop i) = lead toks ∧ rest' (toks.drop i) = rest' toks) ?_ toks.length ⟨0, [], rfl, Nat.zero_le _, Nat.zero_le _, rfl, rfl, rfl⟩)
  rintro m σ ⟨i, res, rfl, hi, hrl, rfl, hle, hre⟩
  refine ⟨isText toks i, t_star rfl rfl rfl rfl (by omega), fun hb => ?_, fun hb => ?_⟩
  · obtain ⟨x, hx⟩ : ∃ x, toks[i]? = some (some x) := by
      unfold isText at hb
      match hq : toks[i]?, hb with
      | some (some x), _ => exact ⟨x, rfl⟩
    have hlt : i < toks.length := (List.getElem?_eq_some_iff.mp hx).1
    obtain ⟨e1, e2⟩ := lead_step hx
    refine x_cons (x_add (y := "res") i11_res rfl i11_add rfl rfl rfl d_add (fun _ => rfl) (e_tok (x := some x) rfl rfl (by omega) hx) rfl (fun _ => rfl) (by rw [List.length_map]; omega) hint ?_)
    refine x_cons (x_aug_int i11_i rfl (a := (i : Int)) (b := 1) rfl e_int (x_nil ⟨toks.length - (i + 1), by omega, i + 1, res ++ [x], ?_, by omega, by rw [List.length_append, List.length_singleton]; omega, rfl, by rw [← hle, e1]; simp, by rw [← hre, e2]⟩))
    dsimp only [List.set_cons_zero, List.set_cons_succ]
    rw [List.map_append]; rfl
  · obtain ⟨e1, e2⟩ := lead_stop hb
    rw [e1, List.append_nil] at hle
    rw [e2] at hre
    subst hle
    have hR : joinTok toks = "(?s:" ++ Txt.join "" (jloop toks.length (rest' toks) (lead toks)) ++ ")\\Z" := rfl
    have hrl2 : (lead toks).length ≤ 2 * i := by omega
    have hpre : toks.drop i = [] ∨ ∃ r, toks.drop i = none :: r := by
      cases hx : toks[i]? with
      | none => exact .inl (List.drop_eq_nil_of_le (List.getElem?_eq_none_iff.mp hx))
      | some x =>
        have hlt : i < toks.length := (List.getElem?_eq_some_iff.mp hx).1
        cases x with
        | some x => unfold isText at hb; rw [hx] at hb; cases hb
        | none =>
          rw [List.drop_eq_getElem_cons hlt]
          rw [List.getElem?_eq_getElem hlt] at hx
          rw [Option.some.inj hx]
          exact .inr ⟨_, rfl⟩
    generalize hF : jloop toks.length (rest' toks) (lead toks) = fin at *
    rw [← hre] at hF
    have hfuel : (toks.drop i).length ≤ toks.length := by rw [List.length_drop]; omega
    generalize lead toks = res at *
    have tail : ∀ (j : Nat) (w : V), j = toks.length → EX G n sc11 t (bd11.drop 5) [.list (toks.map (tokV a)), .raw (.ref a), .own (fin.map .str), .bound 2, .int j, .int toks.length, w] (retOf (.str (joinTok toks))) := by
      intro j w hj
      have e0 : ("" : Str).length = 0 := by decide +kernel
      have e4 : ("(?s:" : Str).length = 4 := by decide +kernel
      have e3 : (")\\Z" : Str).length = 3 := by decide +kernel
      have ee : (Str.empty).length = 0 := rfl
      refine x_cons (x_assert (t_is (b := ((j : Int) == (toks.length : Int))) (t_cmpv rfl (e_var i11_i rfl rfl rfl d_i) (e_var i11_n rfl rfl rfl d_n) (CmpV.eqi _ _)) (by rw [hj, beq_self_eq_true])) ?_)
      refine x_cons (xs_assign (v := .str (Txt.join "" fin)) i11_res rfl ?_ rfl (fun _ _ => rfl) (by dsimp only [List.set_cons_zero, List.set_cons_succ] <;> rfl) (Nat.le_of_ble_eq_true rfl) ?_)
      · exact e_methc PySem.F.slot_str_join ty_join (fun _ _ => rfl) (fun _ => rfl) rfl (fun _ _ => rfl) e_str (sp_one (fun _ => rfl) (e_own i11_res rfl rfl d_res)) (c_join (by rw [e0, Nat.mul_zero]; omega))
      refine x_cons (x_return (v := .str (joinTok toks)) (e_is (e_joined (out := Str.empty ++ "(?s:" ++ Txt.join "" fin ++ ")\\Z") (jp_cons e_str ?_ (jp_cons (e_fv (e_var i11_res rfl rfl rfl d_res) ?_) ?_ (jp_cons e_str ?_ jp_nil))) ?_) ?_) rfl rfl)
      · rw [ee, e4]; omega
      · omega
      · rw [Str.length_append, ee, e4]; omega
      · rw [Str.length_append, Str.length_append, ee, e4, e3]; omega
      · rw [Str.length_append, Str.length_append, Str.length_append, ee, e4, e3]; omega
      · rw [hR, Str.empty_append]
    refine x_cons (x_while (fun m σ' => ∃ (i k : Nat) (res : List Str) (w : V), σ' = [.list (toks.map (tokV a)), .raw (.ref a), .own (res.map .str), .bound 2, .int i, .int toks.length, w] ∧ w ≠ .bound 6 ∧ i ≤ toks.length ∧ res.length ≤ 2 * i ∧ m = toks.length - i ∧ (toks.drop i = [] ∨ ∃ r, toks.drop i = none :: r) ∧ (toks.drop i).length ≤ k ∧ jloop k (toks.drop i) res = fin) ?_ (toks.length - i)
      ⟨i, toks.length, res, .unb, rfl, (by intro h; cases h), hi, hrl2, rfl, hpre, hfuel, hF⟩)
    clear hF hpre hrl2 hrl hfuel hre e2 e1 hb hi
    rintro m σ ⟨i, k, res, w, rfl, hw, hi, hrl, rfl, hpre, hfuel, hF⟩
    refine ⟨decide ((i : Int) < toks.length), t_cmpv rfl (e_var i11_i rfl rfl rfl d_i) (e_var i11_n rfl rfl rfl d_n) (CmpV.lti _ _), fun hb => ?_, fun hb => ?_⟩
    · have hlt : i < toks.length := by have := of_decide_eq_true hb; omega
      obtain ⟨r, hr⟩ : ∃ r, toks.drop i = none :: r := by
        rcases hpre with h | h
        · have := congrArg List.length h
          rw [List.length_drop, List.length_nil] at this; omega
        · exact h
      have hx : toks[i]? = some none := by
        have h2 := List.getElem?_drop (xs := toks) (i := i) (j := 0)
        rw [hr] at h2; simpa using h2.symm
      have hdr : toks.drop (i + 1) = r := by
        have h2 := List.drop_drop (l := toks) (i := 1) (j := i)
        rw [hr] at h2; simpa using h2.symm
      have hlr : r.length = toks.length - (i + 1) := by rw [← hdr, List.length_drop]
      obtain ⟨k, rfl⟩ : ∃ j, k = j + 1 := ⟨k - 1, by rw [hr, List.length_cons] at hfuel; omega⟩
      rw [hr] at hF hfuel
      unfold jloop at hF
      refine x_cons (x_assert (t_cmpv rfl (e_tok (x := none) rfl rfl (by omega) hx) (e_var i11_STAR rfl rfl rfl d_STAR) (CmpV.isself _)) ?_)
      refine x_cons (x_aug_int i11_i rfl (a := (i : Int)) (b := 1) rfl e_int ?_)
      dsimp only [List.set_cons_zero, List.set_cons_succ]
      have eI : ((i : Int) + 1) = ((i + 1 : Nat) : Int) := by omega
      rw [eI]
      refine x_cons (x_if (b := (((i + 1 : Nat) : Int) == (toks.length : Int))) (t_cmpv rfl (e_var i11_i rfl rfl rfl d_i) (e_var i11_n rfl rfl rfl d_n) (CmpV.eqi _ _)) (fun h => ?_) (fun h => x_nil ?_))
      · have hn : i + 1 = toks.length := by have := eq_of_beq h; omega
        have hre : r = [] := List.eq_nil_of_length_eq_zero (by omega)
        subst hre
        rw [if_pos (c := (([] : List (Option Str)).isEmpty = true)) rfl] at hF
        refine x_cons (x_add (y := "res") i11_res rfl i11_add rfl rfl rfl d_add (fun _ => rfl) e_str rfl (fun _ => rfl) (by rw [List.length_map]; omega) hint ?_)
        refine x_cons (x_break ?_)
        have := tail (i + 1) w hn
        rw [← hF, List.map_append] at this
        exact this
      · have hne : i + 1 ≠ toks.length := by
          intro q; rw [q] at h; simp at h
        obtain ⟨x0, r0, hr0⟩ : ∃ x0 r0, r = x0 :: r0 := by
          cases r with
          | nil => rw [List.length_nil] at hlr; omega
          | cons a b => exact ⟨a, b, rfl⟩
        have hre : r.isEmpty = false := by rw [hr0]; rfl
        rw [if_neg (by rw [hre]; exact Bool.false_ne_true)] at hF
        have hx1 : toks[i + 1]? = some x0 := by
          have h2 := List.getElem?_drop (xs := toks) (i := i + 1) (j := 0)
          rw [hdr, hr0] at h2; simpa using h2.symm
        obtain ⟨y0, rfl⟩ : ∃ y, x0 = some y := by
          cases x0 with
          | some y => exact ⟨y, rfl⟩
          | none => exact (gap_at hg hx hx1).elim
        refine x_cons (x_assert (t_cmpv rfl (e_tok (x := some y0) rfl rfl (by omega) hx1) (e_var i11_STAR rfl rfl rfl d_STAR) (CmpV.isnotstr _ _)) ?_)
        refine x_cons (x_assign_own (l := []) i11_fixed rfl (f_list sp_nil rfl (Nat.zero_le _)) (Nat.le_of_ble_eq_true rfl) (by simpa using hw) (fun _ _ => rfl) ?_)
        dsimp only [List.set_cons_zero, List.set_cons_succ]
        refine x_cons (x_while (fun m σ' => ∃ (j : Nat) (fx : List Str), σ' = [.list (toks.map (tokV a)), .raw (.ref a), .own (res.map .str), .bound 2, .int j, .int toks.length, .own (fx.map .str)] ∧ i + 1 ≤ j ∧ j ≤ toks.length ∧ fx.length ≤ j ∧ m = toks.length - j ∧ fx ++ lead (toks.drop j) = lead r ∧ rest' (toks.drop j) = rest' r) ?_ (toks.length - (i + 1)) ⟨i + 1, [], rfl, Nat.le_refl _, by omega, Nat.zero_le _, rfl, by rw [hdr]; rfl, by rw [hdr]⟩)
        rintro m σ ⟨j, fx, rfl, hij, hj, hfl, rfl, hle, hre2⟩
        refine ⟨isText toks j, t_star rfl rfl rfl rfl (by omega), fun hb => ?_, fun hb => ?_⟩
        · obtain ⟨x, hxj⟩ : ∃ x, toks[j]? = some (some x) := by
            unfold isText at hb
            match hq : toks[j]?, hb with
            | some (some x), _ => exact ⟨x, rfl⟩
          have hltj : j < toks.length := (List.getElem?_eq_some_iff.mp hxj).1
          obtain ⟨e1, e2⟩ := lead_step hxj
          refine x_cons (x_append i11_fixed rfl rfl d_fixed (e_tok (x := some x) rfl rfl (by omega) hxj) rfl (fun _ => rfl) rfl (by rw [List.length_map]; omega) hint ?_)
          refine x_cons (x_aug_int i11_i rfl (a := (j : Int)) (b := 1) rfl e_int (x_nil ⟨toks.length - (j + 1), by omega, j + 1, fx ++ [x], ?_, by omega, by omega, by rw [List.length_append, List.length_singleton]; omega, rfl, by rw [← hle, e1]; simp, by rw [← hre2, e2]⟩))
          dsimp only [List.set_cons_zero, List.set_cons_succ]
          rw [List.map_append]; rfl
        · obtain ⟨e1, e2⟩ := lead_stop hb
          rw [e1, List.append_nil] at hle
          rw [e2] at hre2
          subst hle
          have hsz1 := hsz (i + 1)
          rw [hdr] at hsz1
          generalize lead r = fx at *
          have e0 : ("" : Str).length = 0 := by decide +kernel
          refine x_cons (xs_assign (v := .str (Txt.join "" fx)) i11_fixed rfl ?_ rfl (fun _ _ => rfl) (by dsimp only [List.set_cons_zero, List.set_cons_succ] <;> rfl) (Nat.le_of_ble_eq_true rfl) ?_)
          · exact e_methc PySem.F.slot_str_join ty_join (fun _ _ => rfl) (fun _ => rfl) rfl (fun _ _ => rfl) e_str (sp_one (fun _ => rfl) (e_own i11_fixed rfl rfl d_fixed)) (c_join (by rw [e0, Nat.mul_zero]; omega))
          have hpre2 : toks.drop j = [] ∨ ∃ r, toks.drop j = none :: r := by
            cases hxx : toks[j]? with
            | none => exact .inl (List.drop_eq_nil_of_le (List.getElem?_eq_none_iff.mp hxx))
            | some x =>
              have hltj : j < toks.length := (List.getElem?_eq_some_iff.mp hxx).1
              cases x with
              | some x => unfold isText at hb; rw [hxx] at hb; cases hb
              | none =>
                rw [List.drop_eq_getElem_cons hltj]
                rw [List.getElem?_eq_getElem hltj] at hxx
                rw [Option.some.inj hxx]
                exact .inr ⟨_, rfl⟩
          rw [← hre2] at hF
          refine x_cons (x_if (b := ((j : Int) == (toks.length : Int))) (t_cmpv rfl (e_var i11_i rfl rfl rfl d_i) (e_var i11_n rfl rfl rfl d_n) (CmpV.eqi _ _)) (fun h => ?_) (fun h => ?_))
          · have hn : j = toks.length := by have := eq_of_beq h; omega
            have hd : toks.drop j = [] := List.drop_eq_nil_of_le (by omega)
            rw [hd, if_pos (c := (([] : List (Option Str)).isEmpty = true)) rfl] at hF
            refine x_cons (x_add (y := "res") i11_res rfl i11_add rfl rfl rfl d_add (fun _ => rfl) e_str rfl (fun _ => rfl) (by rw [List.length_map]; omega) hint ?_)
            refine x_cons (x_add (y := "res") i11_res rfl i11_add rfl rfl rfl d_add (fun _ => rfl) (e_var i11_fixed rfl rfl rfl d_fixed) rfl (fun _ => rfl) (by rw [List.length_append, List.length_map, List.length_singleton]; omega) hint ?_)
            refine x_nil (x_nil ⟨toks.length - j, by omega, j, 0, res ++ [(".*" : Str)] ++ [Txt.join "" fx], .str (Txt.join "" fx), ?_, (by intro h; cases h), hj, by rw [List.length_append, List.length_append, List.length_singleton, List.length_singleton]; omega, rfl, .inl hd, by rw [hd]; exact Nat.zero_le _, by rw [hd]; exact hF⟩)
            dsimp only [List.set_cons_zero, List.set_cons_succ]
            rw [List.map_append, List.map_append]; rfl
          · have hn : j ≠ toks.length := by intro q; rw [q] at h; simp at h
            have hd : (toks.drop j).isEmpty = false := by
              cases hq : toks.drop j with
              | nil => have := congrArg List.length hq; rw [List.length_drop, List.length_nil] at this; omega
              | cons a b => rfl
            rw [if_neg (by rw [hd]; exact Bool.false_ne_true)] at hF
            have ee : (Str.empty).length = 0 := rfl
            have e6 : ("(?>.*?" : Str).length = 6 := by decide +kernel
            have e7 : (")" : Str).length = 1 := by decide +kernel
            refine x_cons (x_add (y := "res") (v := .str ("(?>.*?" ++ Txt.join "" fx ++ ")")) i11_res rfl i11_add rfl rfl rfl d_add (fun _ => rfl) (e_is (e_joined (out := Str.empty ++ "(?>.*?" ++ Txt.join "" fx ++ ")") (jp_cons e_str ?_ (jp_cons (e_fv (e_var i11_fixed rfl rfl rfl d_fixed) ?_) ?_ (jp_cons e_str ?_ jp_nil))) ?_) ?_) rfl (fun _ => rfl) (by rw [List.length_map]; omega) hint ?_)
            · rw [ee, e6]; omega
            · omega
            · rw [Str.length_append, ee, e6]; omega
            · rw [Str.length_append, Str.length_append, ee, e6, e7]; omega
            · rw [Str.length_append, Str.length_append, Str.length_append, ee, e6, e7]; omega
            · rw [Str.empty_append]
            refine x_nil (x_nil ⟨toks.length - j, by omega, j, k, res ++ ["(?>.*?" ++ Txt.join "" fx ++ ")"], .str (Txt.join "" fx), ?_, (by intro h; cases h), hj, by rw [List.length_append, List.length_singleton]; omega, rfl, hpre2, ?_, hF⟩)
            · dsimp only [List.set_cons_zero, List.set_cons_succ]
              rw [List.map_append]; rfl
            · rw [List.length_cons] at hfuel
              rw [List.length_drop]; omega
    · have hge : i = toks.length := by have := of_decide_eq_false hb; omega
      have hd : toks.drop i = [] := List.drop_eq_nil_of_le (by omega)
      rw [hd] at hF
      have hF' : res = fin := by cases k <;> exact hF
      subst hF'
      exact tail i w hge
end
section
variable {G : Gl} {n : Nat} {t : Bool}
/-- what _join_translated_parts asks of its tokens -/
structure TokOk (toks : List (Option Str)) : Prop where
  hl : toks.length ≤ 10000
  hg : Gap toks
  hsz : ∀ k, (Txt.join "" (lead (toks.drop k))).length ≤ 100000 ∧ ((lead (toks.drop k)).map (·.length)).sum ≤ 100000
  hfin : ((jloop toks.length (rest' toks) (lead toks)).map (·.length)).sum ≤ 100000 ∧ (Txt.join "" (jloop toks.length (rest' toks) (lead toks))).length ≤ 100000
theorem s_jt (H : Fns G) {a : Addr} {toks : List (Option Str)} (h : TokOk toks) : CallN G (n + 1) t "_join_translated_parts" [.list (toks.map (tokV a)), .raw (.ref a)] (.str (joinTok toks)) := s_jtp H h.hl h.hg h.hsz h.hfin
theorem s_translate_fn (H : Fns G) {x : Str} {toks : List (Option Str)} (hT : ∀ a, CallN G (n + 1) t "_translate" [.str x, .raw (.ref a), .str "."] (.list (toks.map (tokV a)))) (hk : TokOk toks) :
    CallN G (n + 2) t "translate" [.str x] (.str (joinTok toks)) := by
  refine calln ["pat"] 2 H.f9 k9 (by decide +kernel) (fun _ _ _ _ _ vals h => by obtain ⟨v, rfl⟩ := len1 h; rfl) rfl (by simp [V.plain]) ?_
  show EX G (n + 1) sc9 t bd9 [.str x, .unb, .unb] _
  unfold bd9
  refine x_cons (x_assign_object i9_STAR rfl g9_object H.n_object (Nat.le_of_ble_eq_true rfl) (fun _ => rfl) (fun _ _ => rfl) ?_)
  intro a
  refine x_cons (xs_assign (v := .list (toks.map (tokV a))) i9_parts rfl (e_gcall g9__translate d__translate (fun _ => rfl) (fun _ _ => rfl) (sp_cons (fun _ => rfl) (e_var i9_pat rfl rfl rfl d_pat) (sp_cons (fun _ => rfl) (e_var i9_STAR rfl rfl rfl d_STAR) (sp_one (fun _ => rfl) e_str) rfl) rfl) (hT a)) rfl (fun _ _ => rfl) (by dsimp only [List.set_cons_zero, List.set_cons_succ] <;> rfl) (Nat.le_of_ble_eq_true rfl) ?_)
  exact x_cons (x_return (e_gcall g9__join_translated_parts d__join_translated_parts (fun _ => rfl) (fun _ _ => rfl) (sp_cons (fun _ => rfl) (e_var i9_parts rfl rfl rfl d_parts) (sp_one (fun _ => rfl) (e_var i9_STAR rfl rfl rfl d_STAR)) rfl) (s_jt H hk)) rfl rfl)
end
section
variable {G : Gl} {n : Nat} {t : Bool}
noncomputable def slashS : Str := "/"
noncomputable def leadN (head : Str) : Str := if Txt.contains head "*" = true then "" else "*"
noncomputable def dueN (rule : Str) : Str := "(?s:" ++ Txt.replace (Txt.replace rule "\\?" "[?]") "\\[" "[\\[]" ++ ")\\Z"
noncomputable def preT (head : Str) : List (Option Str) := if (leadN head == "*") = true then [none] else []
noncomputable def pieceF (tr : Str → List (Option Str)) (acc : List (Option Str)) (nm : Str) : List (Option Str) := acc ++ [some slashS] ++ tr (dressN nm)
noncomputable def piecesN (tr : Str → List (Option Str)) (head : Str) (names : List Str) : List (Option Str) := if names = [] then names.foldl (pieceF tr) (preT head) ++ [some slashS] else names.foldl (pieceF tr) (preT head)
theorem s_frames (H : Fns G) {rule head : Str} {names : List Str} {tr : Str → List (Option Str)} (hr : rule.length ≤ 10000) (hr2 : (Txt.replace rule "\\?" "[?]").length ≤ 100000) (hr3 : (Txt.replace (Txt.replace rule "\\?" "[?]") "\\[" "[\\[]").length ≤ 1000000)
    (hh : head.length ≤ 3000) (hha : head.cps.all (· < 128) = true) (hhd : (dressN head).length ≤ 100000) (hn : ∀ nm ∈ names, nm.length ≤ 3000 ∧ nm.cps.all (· < 128) = true ∧ (tr (dressN nm)).length ≤ 10000)
    (hpl : ∀ i, ((names.take i).foldl (pieceF tr) (preT head)).length ≤ 1000000)
    (hT : ∀ a y, (y = leadN head ++ dressN head ∨ ∃ nm ∈ names, y = dressN nm) → CallN G (n + 1) t "_translate" [.str y, .raw (.ref a), .str "."] (.list ((tr y).map (tokV a))))
    (hk1 : TokOk (tr (leadN head ++ dressN head))) (hk2 : TokOk (piecesN tr head names)) (h1 : joinTok (tr (leadN head ++ dressN head)) = dueN rule) (h2 : joinTok (piecesN tr head names) = dueN rule) :
    CallN G (n + 3) t "_law_frames" [.str rule, .str head, .list (names.map .str)] (.bool true) := by
  refine calln ["rule", "head", "names"] 5 H.f37 k37 (by decide +kernel) (fun _ _ _ _ _ vals h => by obtain ⟨v, w, u, rfl⟩ := len3 h; rfl) rfl (by simp [V.plain]) ?_
  show EX G (n + 2) sc37 t bd37 [.str rule, .str head, .list (names.map .str), .unb, .unb, .unb, .unb, .unb] _
  unfold bd37
  refine x_cons (x_assign_ref (l := [.str "*"]) i37_star rfl (f_list (sp_one (fun _ => rfl) e_str) rfl (Nat.le_of_ble_eq_true rfl)) (Nat.le_of_ble_eq_true rfl) (fun _ _ => rfl) ?_)
  intro a
  have e4 : ("(?s:" : Str).length = 4 := by decide +kernel
  have e3 : (")\\Z" : Str).length = 3 := by decide +kernel
  refine x_cons (xs_assign (v := .str (dueN rule)) i37_due rfl ?_ rfl (fun _ _ => rfl) (by dsimp only [List.set_cons_zero, List.set_cons_succ] <;> rfl) (Nat.le_of_ble_eq_true rfl) ?_)
  · refine e_bin (e_bin e_str (e_replace ty_replace (fun _ _ => rfl) (fun _ => rfl) rfl H.t0 (by decide +kernel) (by omega) (by decide +kernel) (e_replace ty_replace (fun _ _ => rfl) (fun _ => rfl) rfl H.t0 (by decide +kernel) (by omega) (by decide +kernel) (e_var i37_rule rfl rfl rfl d_rule))) (BinV.adds ?_)) e_str (BinV.adds ?_)
    · rw [e4]; omega
    · rw [Str.length_append, e4, e3]; omega
  refine x_cons (xs_assign (v := .str (leadN head)) i37_lead rfl ?_ rfl (fun _ _ => rfl) (by dsimp only [List.set_cons_zero, List.set_cons_succ] <;> rfl) (Nat.le_of_ble_eq_true rfl) ?_)
  · refine e_if (b := Txt.contains head "*") (t_cmpv rfl e_str (e_var i37_head rfl rfl rfl d_head) (CmpV.ins _ _)) (fun h => ?_) (fun h => ?_)
    · unfold leadN; rw [if_pos h]; exact e_str
    · unfold leadN; rw [if_neg (by rw [h]; exact Bool.false_ne_true)]; exact e_str
  refine x_cons (xs_assign (v := .list ((preT head).map (tokV a))) i37_pieces rfl ?_ rfl (fun _ _ => rfl) (by dsimp only [List.set_cons_zero, List.set_cons_succ] <;> rfl) (Nat.le_of_ble_eq_true rfl) ?_)
  · refine e_if (b := leadN head == "*") (t_cmpv rfl (e_var i37_lead rfl rfl rfl d_lead) e_str (CmpV.eqs _ _)) (fun h => ?_) (fun h => ?_)
    · unfold preT; rw [if_pos h]
      exact e_list (sp_one (fun _ => rfl) (e_var i37_star rfl rfl rfl d_star)) rfl (Nat.le_of_ble_eq_true rfl)
    · unfold preT; rw [if_neg (by rw [h]; exact Bool.false_ne_true)]
      exact e_list sp_nil rfl (Nat.le_of_ble_eq_true rfl)
  refine x_cons (x_for_strs (fun i σ' => ∃ w : V, σ' = [.str rule, .str head, .list (names.map .str), .raw (.ref a), .str (dueN rule), .str (leadN head), .list (((names.take i).foldl (pieceF tr) (preT head)).map (tokV a)), w]) i37_name rfl (e_var i37_names rfl rfl rfl d_names) (fun _ _ => rfl) ⟨_, rfl⟩ ?_ ?_)
  · rintro i y σ' hy ⟨w, rfl⟩
    refine ⟨Nat.le_of_ble_eq_true rfl, ?_⟩
    dsimp only [List.set_cons_zero, List.set_cons_succ]
    have hm := List.mem_of_getElem? hy
    obtain ⟨q1, q2, q3⟩ := hn y hm
    have hb := hpl i
    unfold Turn
    rw [fold_take hy]
    generalize (names.take i).foldl (pieceF tr) (preT head) = acc at *
    refine x_cons (xs_assign (v := .list (acc.map (tokV a) ++ [.str "/"] ++ (tr (dressN y)).map (tokV a))) i37_pieces rfl ?_ rfl (fun _ _ => rfl) (by dsimp only [List.set_cons_zero, List.set_cons_succ] <;> rfl) (Nat.le_of_ble_eq_true rfl) (x_nil ⟨.str y, ?_⟩))
    · refine e_bin (e_bin (e_var i37_pieces rfl rfl rfl d_pieces) (e_list (sp_one (fun _ => rfl) e_str) rfl (Nat.le_of_ble_eq_true rfl)) (BinV.addl ?_)) (e_gcall g37__translate d__translate (fun _ => rfl) (fun _ _ => rfl) (sp_cons (fun _ => rfl)
        (e_gcall g37__law_dress d__law_dress (fun _ => rfl) (fun _ _ => rfl) (sp_one (fun _ => rfl) (e_var i37_name rfl rfl rfl d_name)) (s_dress (n := n + 1) H (by omega) q2)) (sp_cons (fun _ => rfl) (e_var i37_star rfl rfl rfl d_star) (sp_one (fun _ => rfl) e_str) rfl) rfl) ((hT a _ (.inr ⟨y, hm, rfl⟩)).up (by omega))) (BinV.addl ?_)
      · rw [List.length_map, List.length_singleton]; omega
      · rw [List.length_append, List.length_map, List.length_map, List.length_singleton]; omega
    · unfold pieceF
      rw [List.map_append, List.map_append]; rfl
  · rintro σ' ⟨w, rfl⟩
    rw [List.take_length]
    have hb := hpl names.length
    rw [List.take_length] at hb
    have fin : EX G (n + 2) sc37 t (bd37.drop 6) [.str rule, .str head, .list (names.map .str), .raw (.ref a), .str (dueN rule), .str (leadN head), .list ((piecesN tr head names).map (tokV a)), w] (retOf (.bool true)) := by
      refine x_cons (x_return (e_is (e_and (a := dueN rule == dueN rule) (b := dueN rule == dueN rule) (e_cmp rfl ?_ (e_var i37_due rfl rfl rfl d_due) (CmpV.eqs _ _)) (fun _ => e_cmp rfl ?_ (e_var i37_due rfl rfl rfl d_due) (CmpV.eqs _ _))) (by rw [beq_self_eq_true]; rfl)) rfl rfl)
      · rw [← h1]
        refine e_gcall g37_translate d_translate (fun _ => rfl) (fun _ _ => rfl) (sp_one (fun _ => rfl) (e_bin (e_var i37_lead rfl rfl rfl d_lead) (e_gcall g37__law_dress d__law_dress (fun _ => rfl) (fun _ _ => rfl) (sp_one (fun _ => rfl) (e_var i37_head rfl rfl rfl d_head)) (s_dress (n := n + 1) H (by omega) hha)) (BinV.adds ?_))) (s_translate_fn H (fun a => hT a _ (.inl rfl)) hk1)
        have : (leadN head).length ≤ 1 := by
          unfold leadN; split <;> decide +kernel
        omega
      · rw [← h2]
        exact e_gcall g37__join_translated_parts d__join_translated_parts (fun _ => rfl) (fun _ _ => rfl) (sp_cons (fun _ => rfl) (e_var i37_pieces rfl rfl rfl d_pieces) (sp_one (fun _ => rfl) (e_var i37_star rfl rfl rfl d_star)) rfl) (s_jt H hk2)
    refine x_cons (x_if (b := decide (names = [])) (t_cmp (e_eq_strs (xs := names) (ys := []) (e_var i37_names rfl rfl rfl d_names).loan (e_list sp_nil rfl (Nat.le_of_ble_eq_true rfl)).loan rfl) rfl) (fun h => ?_) (fun h => x_nil ?_))
    · have hnn : names = [] := of_decide_eq_true h
      have hp : piecesN tr head names = names.foldl (pieceF tr) (preT head) ++ [some slashS] := by unfold piecesN; rw [if_pos hnn]
      rw [hp] at fin
      refine x_cons (xs_assign (v := .list ((names.foldl (pieceF tr) (preT head)).map (tokV a) ++ [.str "/"])) i37_pieces rfl (e_bin (e_var i37_pieces rfl rfl rfl d_pieces) (e_list (sp_one (fun _ => rfl) e_str) rfl (Nat.le_of_ble_eq_true rfl)) (BinV.addl (by rw [List.length_map, List.length_singleton]; omega))) rfl (fun _ _ => rfl) (by dsimp only [List.set_cons_zero, List.set_cons_succ] <;> rfl) (Nat.le_of_ble_eq_true rfl) (x_nil ?_))
      rw [List.map_append] at fin
      exact fin
    · have hnn : names ≠ [] := of_decide_eq_false h
      have hp : piecesN tr head names = names.foldl (pieceF tr) (preT head) := by unfold piecesN; rw [if_neg hnn]
      rw [hp] at fin
      exact fin
end
section
variable {G : Gl} {n : Nat} {t : Bool}
/-- the table of escape, as it stands in the ground heap -/
structure EscTab (G : Gl) (d : Addr) (f : Int → Option Value) : Prop where
  glob : G.mg "_special_chars_map" = some (.ref d)
  hd : (d == sysModules) = false
  hm : ∀ s' : Shared, (∀ b o, G.g₀.get? b = some o → s'.heap.get? b = some o) → s'.heap.MapOf (intKind G.prog G.w) d f
theorem s_escape1 (H : Fns G) {x : Str} {d : Addr} {f : Int → Option Value} (T : EscTab G d f) (hx : (x.length == 0) = false)
    (hf : ∀ c ∈ x.cps.toList, f c = none ∨ ∃ v u, f c = some (.str v u) ∧ (v.length == 1) = false) (hlen : ((x.cps.toList.map (esc1 f)).map (·.length)).sum ≤ 100000) :
    CallN G (n + 1) t "escape" [.str x] (.str (trN f x)) := by
  refine calln ["pattern"] 0 H.f4 k4 (by decide +kernel) (fun _ _ _ _ _ vals h => by obtain ⟨v, rfl⟩ := len1 h; rfl) rfl (by simp [V.plain]) ?_
  show EX G n sc4 t bd4 [.str x] _
  refine x_cons (x_if (b := true) ?_ (fun _ => ?_) (fun h => nomatch h))
  · repeat' (first | wtm_at "mau")
  · exact x_cons (x_return (e_methc PySem.F.slot_str_translate ty_translate (fun _ _ => rfl) (fun _ => rfl) rfl (fun _ _ => rfl) (e_var i4_pattern rfl rfl rfl d_pattern) (sp_one (fun _ => rfl) (e_global g4__special_chars_map T.glob d__special_chars_map)) (c_translate hx T.hd T.hm hf hlen)) rfl rfl)
theorem trN_empty {f : Int → Option Value} {x : Str} (hx : (x.length == 0) = true) : trN f x = x := by
  obtain ⟨c⟩ := x
  have h : c.size = 0 := by simpa [Str.length] using hx
  have h2 : c = #[] := Array.eq_empty_of_size_eq_zero h
  subst h2; rfl
theorem s_escape (H : Fns G) {x : Str} {d : Addr} {f : Int → Option Value} (T : EscTab G d f)
    (hf : ∀ c ∈ x.cps.toList, f c = none ∨ ∃ v u, f c = some (.str v u) ∧ (v.length == 1) = false) (hlen : ((x.cps.toList.map (esc1 f)).map (·.length)).sum ≤ 100000) :
    CallN G (n + 1) t "escape" [.str x] (.str (trN f x)) := by
  cases hx : (x.length == 0) with
  | false => exact s_escape1 H T hx hf hlen
  | true =>
    rw [trN_empty hx]
    refine calln ["pattern"] 0 H.f4 k4 (by decide +kernel) (fun _ _ _ _ _ vals h => by obtain ⟨v, rfl⟩ := len1 h; rfl) rfl (by simp [V.plain]) ?_
    show EX G n sc4 t bd4 [.str x] _
    refine x_cons (x_if (b := true) ?_ (fun _ => ?_) (fun h => nomatch h))
    · repeat' (first | wtm_at "mau")
    · exact x_cons (x_return (e_methc PySem.F.slot_str_translate ty_translate (fun _ _ => rfl) (fun _ => rfl) rfl (fun _ _ => rfl) (e_var i4_pattern rfl rfl rfl d_pattern) (sp_one (fun _ => rfl) (e_global g4__special_chars_map T.glob d__special_chars_map)) (c_translate0 hx)) rfl rfl)
end
/-! texts as lists of signs -/
theorem S_list (l : List Nat) : (S l).cps.toList = l := by simp [S]
theorem S_len (l : List Nat) : (S l).length = l.length := by simp [S, Str.length]
theorem S_app (a b : List Nat) : S a ++ S b = S (a ++ b) := by
  apply Str.ext'
  rw [Str.cps_append]; simp [S]
theorem S_of (x : Str) : x = S x.cps.toList := Str.ext' (by simp [S])
theorem S_inj {a b : List Nat} (h : S a = S b) : a = b := by rw [← S_list a, h, S_list]
theorem S_beq (a b : List Nat) : (S a == S b) = (a == b) := by
  rw [Bool.eq_iff_iff, beq_iff_eq, beq_iff_eq]
  exact ⟨S_inj, fun h => by rw [h]⟩
theorem ch_S (c : Nat) : ch c = S [c] := rfl
theorem one_S (c : Nat) : (⟨#[c]⟩ : Str) = S [c] := rfl

noncomputable def jl (sep : List Nat) : List (List Nat) → List Nat
  | [] => []
  | [x] => x
  | x :: y :: r => x ++ sep ++ jl sep (y :: r)
theorem jl_nil : ∀ ls : List (List Nat), jl [] ls = ls.flatten
  | [] => rfl
  | [x] => by simp [jl]
  | x :: y :: r => by
    show x ++ [] ++ jl [] (y :: r) = _
    rw [jl_nil (y :: r), List.append_nil]; rfl
theorem strjoin_S (sep : List Nat) : ∀ ls : List (List Nat), Str.join (S sep) (ls.map S) = S (jl sep ls)
  | [] => rfl
  | [x] => rfl
  | x :: y :: r => by
    have ih := strjoin_S sep (y :: r)
    show S x ++ S sep ++ Str.join (S sep) ((y :: r).map S) = _
    rw [ih, S_app, S_app]; rfl
theorem join_S (sep : List Nat) (ls : List (List Nat)) : Txt.join (S sep) (ls.map S) = S (jl sep ls) := by
  rw [← strjoin_S]; exact StrLaws.glued_eq_join _ _
theorem emp_S : ("" : Str) = S [] := by decide +kernel
theorem join0_S (ls : List (List Nat)) : Txt.join "" (ls.map S) = S ls.flatten := by rw [emp_S, join_S, jl_nil]
theorem map_S_of (xs : List Str) : xs = (xs.map fun x => x.cps.toList).map S := by
  rw [List.map_map]
  conv => lhs; rw [← List.map_id xs]
  exact List.map_congr_left fun x _ => S_of x

theorem jl_cons {sep x : List Nat} {ls : List (List Nat)} (h : ls ≠ []) : jl sep (x :: ls) = x ++ sep ++ jl sep ls := by
  cases ls with
  | nil => exact absurd rfl h
  | cons y r => rfl
theorem cut_unique {c : Nat} : ∀ {a b u v : List Nat}, c ∉ a → c ∉ b → a ++ c :: u = b ++ c :: v → a = b ∧ u = v
  | [], [], _, _, _, _, h => ⟨rfl, (List.cons.inj h).2⟩
  | [], y :: b, _, _, _, hb, h => absurd ((List.cons.inj h).1 ▸ List.mem_cons_self) hb
  | x :: a, [], _, _, ha, _, h => absurd ((List.cons.inj h).1 ▸ List.mem_cons_self) ha
  | x :: a, y :: b, u, v, ha, hb, h => by
    obtain ⟨h1, h2⟩ := List.cons.inj h
    obtain ⟨h3, h4⟩ := cut_unique (fun q => ha (List.mem_cons_of_mem _ q)) (fun q => hb (List.mem_cons_of_mem _ q)) h2
    exact ⟨by rw [h1, h3], h4⟩
theorem jl_inj {c : Nat} : ∀ {ls ms : List (List Nat)}, ls ≠ [] → ms ≠ [] → (∀ l ∈ ls, c ∉ l) → (∀ l ∈ ms, c ∉ l) → jl [c] ls = jl [c] ms → ls = ms
  | [], _, h, _, _, _, _ => absurd rfl h
  | _, [], _, h, _, _, _ => absurd rfl h
  | [x], [y], _, _, _, _, h => by rw [show x = y from h]
  | [x], y :: z :: r, _, _, h1, _, h => by
    have h' : x = y ++ [c] ++ jl [c] (z :: r) := h
    exact absurd (by rw [h']; simp) (h1 x List.mem_cons_self)
  | x :: z :: r, [y], _, _, _, h1, h => by
    have h' : x ++ [c] ++ jl [c] (z :: r) = y := h
    exact absurd (by rw [← h']; simp) (h1 y List.mem_cons_self)
  | x :: z :: r, y :: w :: q, _, _, h1, h2, h => by
    have h' : x ++ [c] ++ jl [c] (z :: r) = y ++ [c] ++ jl [c] (w :: q) := h
    rw [List.append_assoc, List.append_assoc] at h'
    obtain ⟨e1, e2⟩ := cut_unique (h1 x List.mem_cons_self) (h2 y List.mem_cons_self) h'
    have := jl_inj (ls := z :: r) (ms := w :: q) (by simp) (by simp) (fun l hl => h1 l (List.mem_cons_of_mem _ hl)) (fun l hl => h2 l (List.mem_cons_of_mem _ hl)) e2
    rw [e1, this]
theorem split_ne (x y : Str) : Txt.split x y ≠ [] := by
  unfold Txt.split
  split
  · simp
  · split
    · simp
    · rw [StrLaws.partsBetween_eq]
      obtain ⟨p, r, e⟩ := StrLaws.partsFrom_ne x y.length 0 (Builtin.Str.occurrences x y 0 x.length (x.length + 1))
      rw [e]; simp
theorem split_S (c : Nat) {ls : List (List Nat)} (hne : ls ≠ []) (hf : ∀ l ∈ ls, c ∉ l) : Txt.split (S (jl [c] ls)) (S [c]) = ls.map S := by
  have h1 := StrLaws.join_split (S (jl [c] ls)) (S [c])
  have h2 := StrLaws.split_free (S (jl [c] ls)) c
  have h3 := split_ne (S (jl [c] ls)) (S [c])
  change ∀ p ∈ Txt.split (S (jl [c] ls)) (S [c]), c ∉ p.cps.toList at h2
  generalize Txt.split (S (jl [c] ls)) (S [c]) = xs at *
  rw [map_S_of xs]
  congr 1
  refine jl_inj (c := c) (by simpa using h3) hne (fun l hl => ?_) hf ?_
  · obtain ⟨x, hx, rfl⟩ := List.mem_map.mp hl
    exact h2 x hx
  · rw [map_S_of xs, strjoin_S] at h1
    exact S_inj h1

theorem at_one (x : Str) (c i : Nat) : StrLaws.At x (S [c]) x.length i ↔ x.cps.toList[i]? = some c := StrLaws.subAt_one x c i
theorem rfind_S (c : Nat) (a b : List Nat) (hb : c ∉ b) : Txt.rfind (S (a ++ c :: b)) (S [c]) = a.length := by
  have hA : StrLaws.At (S (a ++ c :: b)) (S [c]) (S (a ++ c :: b)).length a.length := (at_one _ _ _).mpr (by rw [S_list]; simp)
  unfold Txt.rfind
  rcases StrLaws.last_spec (S (a ++ c :: b)) (S [c]) with ⟨_, h2⟩ | ⟨i, h1, h2, h3⟩
  · exact absurd hA (h2 _)
  · rw [h1]
    have hle : a.length ≤ i := Nat.le_of_not_lt fun h => h3 _ h hA
    have h4 := (at_one _ _ _).mp h2
    rw [S_list] at h4
    by_cases h : a.length = i
    · rw [h]
    · rw [List.getElem?_append_right hle] at h4
      obtain ⟨j, hj⟩ : ∃ j, i - a.length = j + 1 := ⟨i - a.length - 1, by omega⟩
      rw [hj, List.getElem?_cons_succ] at h4
      exact absurd (List.mem_of_getElem? h4) hb
theorem contains_S (l : List Nat) (c : Nat) : Txt.contains (S l) (S [c]) = decide (c ∈ l) := by
  have := StrLaws.found_one (S l) c
  rw [S_list] at this; exact this
theorem starts_S (l : List Nat) (c : Nat) : Txt.startswith (S l) (S [c]) = (l.head? == some c) := by
  have h := StrLaws.subAt_one (S l) c 0
  rw [S_list] at h
  have h2 : Txt.startswith (S l) (S [c]) = true ↔ l[0]? = some c := by
    rw [← h]
    simp [Txt.startswith, S]
  rw [Bool.eq_iff_iff, h2, beq_iff_eq, List.head?_eq_getElem?]
theorem ends_S (l : List Nat) (c : Nat) : Txt.endswith (S l) (S [c]) = (l.getLast? == some c) := by
  have h := StrLaws.subAt_one (S l) c ((S l).length - 1)
  rw [S_list] at h
  have h2 : Txt.endswith (S l) (S [c]) = true ↔ l[l.length - 1]? = some c := by
    rw [S_len] at h
    rw [← h]
    unfold Txt.endswith
    rw [S_len, S_len]
    show (decide (0 + 1 ≤ l.length) && _) = true ↔ (_ + 1 ≤ _ ∧ _)
    rw [Bool.and_eq_true, decide_eq_true_eq]
    show (0 + 1 ≤ l.length ∧ Builtin.Str.subAt (S l) (S [c]) (l.length - 1) = true) ↔ _
    constructor
    · rintro ⟨a, b⟩; exact ⟨by omega, b⟩
    · rintro ⟨a, b⟩; exact ⟨by omega, b⟩
  rw [Bool.eq_iff_iff, h2, beq_iff_eq, List.getLast?_eq_getElem?]

theorem rstrip_S (a : List Nat) (c d : Nat) (h : a.getLast? = some d) (hd : d ≠ c) : Txt.rstripChars (S (a ++ [c])) (S [c]) = S a := by
  have hc : (S [c]).cps.contains c = true := by simp [S]
  have hdn : (S [c]).cps.contains d = false := by simp [S]; exact hd
  have hrev : (a ++ [c]).reverse.takeWhile (S [c]).cps.contains = [c] := by
    rw [List.reverse_append, List.reverse_singleton, List.singleton_append, List.takeWhile_cons, if_pos hc]
    rw [List.getLast?_eq_head?_reverse] at h
    cases hr : a.reverse with
    | nil => rfl
    | cons x r =>
      rw [hr] at h
      cases h
      rw [List.takeWhile_cons, if_neg (by rw [hdn]; exact Bool.false_ne_true)]
  have hlo : stripLo (S [c]).cps.contains false (S (a ++ [c])) = 0 := rfl
  have hhi : stripHi (S [c]).cps.contains true (S (a ++ [c])) 0 = a.length := by
    show (S (a ++ [c])).length - _ = _
    rw [S_list, List.drop_zero, hrev, S_len]; simp
  unfold Txt.rstripChars Txt.stripBy
  have hne : stripSame (S [c]).cps.contains false true (S (a ++ [c])) = false := by
    unfold stripSame
    rw [hlo, hhi, S_len]; simp
  rw [if_neg (by rw [hne]; exact Bool.false_ne_true)]
  unfold PySem.stripped
  rw [hlo, hhi]
  apply Str.ext'
  apply Array.toList_inj.mp
  rw [StrLaws.strSub_toList, S_list, S_list, List.drop_zero, Nat.sub_zero]
  simp
theorem mul_S (c k : Nat) : Txt.mul (S [c]) k = S (List.replicate k c) := by
  unfold Txt.mul
  split
  · have : k = 0 := by omega
    subst this; rfl
  · split
    next h1 h2 =>
      have hl : (S [c]).length = 1 := rfl
      have : k = 1 := by
        rw [hl] at h2
        have : ((k : Int) == 1) = true := by simpa using h2
        have := eq_of_beq this
        omega
      subst this; rfl
    next =>
      apply Str.ext'
      apply Array.toList_inj.mp
      rw [S_list]
      show ((List.replicate (k : Int).toNat (S [c]).cps).foldl (· ++ ·) #[]).toList = _
      rw [Int.toNat_natCast]
      have : ∀ (k : Nat) (acc : Array Nat), ((List.replicate k (S [c]).cps).foldl (· ++ ·) acc).toList = acc.toList ++ List.replicate k c := by
        intro k
        induction k with
        | zero => intro acc; simp
        | succ k ih =>
          intro acc
          rw [List.replicate_succ, List.foldl_cons, ih, List.replicate_succ]
          simp [S]
      rw [this]; simp
/-- the signs of the paths -/
noncomputable def Al : List Nat := [97, 98, 42, 63, 91, 46, 43, 47]
/-- brackets around a question mark and an open bracket -/
noncomputable def dr (c : Nat) : List Nat := if c = 63 ∨ c = 91 then [91, c, 93] else [c]
/-- escape of a sign -/
noncomputable def Ec (c : Nat) : List Nat := if c = 97 ∨ c = 98 ∨ c = 47 then [c] else [92, c]
/-- a sign as fnmatch writes it -/
noncomputable def Eb (c : Nat) : List Nat := if c = 63 then [91, 63, 93] else if c = 91 then [91, 92, 91, 93] else Ec c
noncomputable def tokc (c : Nat) : Option Str := if c = 42 then none else some (S (Eb c))
noncomputable def NoAdj : List Nat → Prop
  | a :: b :: r => ¬ (a = 42 ∧ b = 42) ∧ NoAdj (b :: r)
  | _ => True
noncomputable def posn (L : List Nat) (k : Nat) : Nat := ((L.take k).flatMap dr).length
theorem dr_len (c : Nat) : 1 ≤ (dr c).length ∧ (dr c).length ≤ 3 := by
  unfold dr; split <;> simp
theorem posn_step {L : List Nat} {k c : Nat} (h : L[k]? = some c) : posn L (k + 1) = posn L k + (dr c).length := by
  have hlt : k < L.length := (List.getElem?_eq_some_iff.mp h).1
  unfold posn
  rw [List.take_add_one, h]
  simp
theorem posn_le (L : List Nat) (k : Nat) : posn L k ≤ 3 * k := by
  induction k with
  | zero => simp [posn]
  | succ k ih =>
    cases h : L[k]? with
    | none =>
      have hl : L.length ≤ k := List.getElem?_eq_none_iff.mp h
      have e : posn L (k + 1) = posn L k := by
        unfold posn
        rw [List.take_of_length_le hl, List.take_of_length_le (by omega)]
      omega
    | some c =>
      have := posn_step h
      have := dr_len c
      omega
theorem posn_all (L : List Nat) : posn L L.length = (L.flatMap dr).length := by unfold posn; rw [List.take_length]
theorem posn_mono {L : List Nat} {k : Nat} : ∀ {m : Nat}, k ≤ m → posn L k ≤ posn L m
  | 0, h => by rw [Nat.le_zero.mp h]; exact Nat.le_refl _
  | m + 1, h => by
    rcases Nat.lt_or_eq_of_le h with h | h
    · refine Nat.le_trans (posn_mono (m := m) (by omega)) ?_
      cases e : L[m]? with
      | none =>
        have hl : L.length ≤ m := List.getElem?_eq_none_iff.mp e
        unfold posn
        rw [List.take_of_length_le hl, List.take_of_length_le (by omega)]
        exact Nat.le_refl _
      | some c => rw [posn_step e]; omega
    · rw [h]; exact Nat.le_refl _
theorem at_dr {L : List Nat} {k c j : Nat} (h : L[k]? = some c) (hj : j < (dr c).length) : (L.flatMap dr)[posn L k + j]? = (dr c)[j]? := by
  have hlt : k < L.length := (List.getElem?_eq_some_iff.mp h).1
  have e : L = L.take k ++ c :: L.drop (k + 1) := by
    rw [List.getElem?_eq_getElem hlt] at h
    rw [← Option.some.inj h, ← List.drop_eq_getElem_cons hlt, List.take_append_drop]
  have e2 : L.flatMap dr = (L.take k).flatMap dr ++ (dr c ++ (L.drop (k + 1)).flatMap dr) := by
    conv => lhs; rw [e, List.flatMap_append, List.flatMap_cons]
  rw [e2]
  unfold posn
  rw [List.getElem?_append_right (by omega), Nat.add_sub_cancel_left, List.getElem?_append_left hj]
theorem pos_lt {L : List Nat} {k c : Nat} (h : L[k]? = some c) : posn L k + (dr c).length ≤ (L.flatMap dr).length := by
  have hlt : k < L.length := (List.getElem?_eq_some_iff.mp h).1
  rw [← posn_step h, ← posn_all]
  exact posn_mono (by omega)
theorem noadj_at : ∀ {L : List Nat} {k : Nat}, NoAdj L → L[k]? = some 42 → L[k + 1]? = some 42 → False
  | [], _, _, h, _ => by simp at h
  | [a], 0, _, _, h2 => by simp at h2
  | [a], k + 1, _, h1, _ => by simp at h1
  | a :: b :: r, 0, h, h1, h2 => h.1 ⟨by simpa using h1, by simpa using h2⟩
  | a :: b :: r, k + 1, h, h1, h2 => noadj_at (L := b :: r) (k := k) h.2 (by simpa using h1) (by simpa using h2)
/-- the table of escape, at the signs of the paths -/
noncomputable def EscAl (f : Int → Option Value) : Prop := ∀ c ∈ Al, ((c = 97 ∨ c = 98 ∨ c = 47) ∧ f c = none) ∨ (¬ (c = 97 ∨ c = 98 ∨ c = 47) ∧ ∃ u, f c = some (.str (S [92, c]) u))
theorem esc_al {f : Int → Option Value} (hf : EscAl f) {c : Nat} (hc : c ∈ Al) : esc1 f c = S (Ec c) := by
  unfold esc1 Ec
  rcases hf c hc with ⟨h1, h2⟩ | ⟨h1, u, h2⟩
  · rw [h2, if_pos h1]; rfl
  · rw [h2, if_neg h1]
theorem tr_al {f : Int → Option Value} (hf : EscAl f) {l : List Nat} (hl : ∀ c ∈ l, c ∈ Al) : trN f (S l) = S (l.flatMap Ec) := by
  have key : ∀ (l : List Nat) (acc : Array Nat), (∀ c ∈ l, c ∈ Al) → ((l.map (esc1 f)).foldl (fun acc p => acc ++ p.cps) acc) = acc ++ (l.flatMap Ec).toArray := by
    intro l
    induction l with
    | nil => intro acc _; simp
    | cons c l ih =>
      intro acc h
      rw [List.map_cons, List.foldl_cons, ih _ fun c hc => h c (List.mem_cons_of_mem _ hc), esc_al hf (h c List.mem_cons_self), List.flatMap_cons]
      simp [S]
  unfold trN
  rw [S_list, key l #[] hl]
  apply Str.ext'
  simp [S]
theorem esc_ok {f : Int → Option Value} (hf : EscAl f) {l : List Nat} (hl : ∀ c ∈ l, c ∈ Al) : ∀ c ∈ (S l).cps.toList, f c = none ∨ ∃ v u, f c = some (.str v u) ∧ (v.length == 1) = false := by
  intro c hc
  rw [S_list] at hc
  rcases hf c (hl c hc) with ⟨_, h2⟩ | ⟨_, u, h2⟩
  · exact .inl h2
  · exact .inr ⟨_, u, h2, by simp [S_len]⟩
theorem Ec_len (c : Nat) : (Ec c).length ≤ 2 := by unfold Ec; split <;> simp
theorem esc_len {f : Int → Option Value} (hf : EscAl f) {l : List Nat} (hl : ∀ c ∈ l, c ∈ Al) (hz : l.length ≤ 40000) : (((S l).cps.toList.map (esc1 f)).map (·.length)).sum ≤ 100000 := by
  rw [S_list]
  have : ∀ l : List Nat, (∀ c ∈ l, c ∈ Al) → ((l.map (esc1 f)).map (·.length)).sum ≤ 2 * l.length := by
    intro l
    induction l with
    | nil => intro _; simp
    | cons c l ih =>
      intro h
      have h1 := ih fun c hc => h c (List.mem_cons_of_mem _ hc)
      have h2 := Ec_len c
      rw [List.map_cons, List.map_cons, List.sum_cons, esc_al hf (h c List.mem_cons_self), S_len, List.length_cons]
      omega
  have := this l hl
  omega
section
variable {G : Gl} {n : Nat} {t : Bool}
theorem s_esc (H : Fns G) {d : Addr} {f : Int → Option Value} (T : EscTab G d f) (hf : EscAl f) {l : List Nat} (hl : ∀ c ∈ l, c ∈ Al) (hz : l.length ≤ 40000) :
    CallN G (n + 1) t "escape" [.str (S l)] (.str (S (l.flatMap Ec))) := by
  rw [← tr_al hf hl]
  exact s_escape H T (esc_ok hf hl) (esc_len hf hl hz)
end
namespace Fx
theorem plainAttrs_pat : PlainAttrs "re.Pattern" :=
  ⟨⟨"object.__getattribute__", by rw [typeLookup_type, builtinLookup_eq_fast]; kernel_rfl, by decide +kernel⟩, by rw [typeLookup_type, builtinLookup_eq_fast]; kernel_rfl⟩
theorem slot_psub : Slot "re.Pattern" "sub" "re.Pattern.sub" :=
  .of (owner := "re.Pattern") (n := "sub") (by rw [typeLookup_type, builtinLookup_eq_fast]; kernel_rfl) (by decide +kernel) (by decide +kernel) (by decide +kernel)
    (by first | exact .inl (by decide +kernel) | exact .inr (by decide +kernel)) (by rw [isSubtype_type]; kernel_rfl)
theorem ty_psub : typeOf (.builtin "re.Pattern.sub") = pure (.type "method_descriptor") := by show builtinType _ = _; rw [builtinType_eq_fast]; kernel_rfl
theorem entry_psub : entryFor table "re.Pattern.sub" = some Builtin.«re.Pattern.sub» := by first | exact entryFor_of_tree (by kernel_rfl) | exact entryFor_of_fast (by kernel_rfl)
theorem entry_ploop : entryFor table "re.Pattern.sub.loop" = some Builtin.«re.Pattern.sub.loop» := by first | exact entryFor_of_tree (by kernel_rfl) | exact entryFor_of_fast (by kernel_rfl)
theorem args_psub (a b c : Value) : argsOk "re.Pattern.sub" ⟨[a, b, c], []⟩ := by unfold argsOk; kernel_rfl
theorem plain_ploop : plainId "re.Pattern.sub.loop" = true := by decide +kernel
theorem named_psub (a b : Value) : Builtin.Re.reNamed "re.Pattern.sub" "sub" ["repl", "string", "count"] 2 [a, b] [] = pure [some a, some b, none] := by first | rfl | kernel_rfl
theorem fn_call : typeLookup (.type "function") "__call__" = pure (some (.builtin "function.__call__")) := by rw [typeLookup_type, builtinLookup_eq_fast]; kernel_rfl
theorem sub_sba : isSubtype (.type "str") (.type "bytearray") = pure false := by rw [isSubtype_type]; kernel_rfl
end Fx
noncomputable def twinCode : Array Nat := #[14, 14, 4, 1, 1, 9, 0, 64, 0, 1342177280, 0, 0, 0, 0, 0, 17, 0, 13, 11, 9, 0, 64, 0, 1342177280, 0, 0, 0, 0, 0, 17, 1, 1]
noncomputable def isFailed : Option Sre.Outcome → Bool
  | some .failed => true
  | _ => false
theorem isFailed_eq {o : Option Sre.Outcome} (h : isFailed o = true) : o = some .failed := by
  unfold isFailed at h
  split at h
  · rfl
  · cases h
noncomputable def twinM (x : Array Nat) : Sre.M := Sre.forSearch twinCode x 1 0 1 false
theorem twin_q : isFailed ((twinM #[63]).runFor 4).outcome = true := by decide +kernel
theorem twin_b : isFailed ((twinM #[91]).runFor 4).outcome = true := by decide +kernel
section
variable {prog : Program} {w : World} {A : Around} {E : Value → Shared → Prop} {s : Shared}
theorem drive_done {k : Nat} {m : Sre.M} {Q : Sre.M → Shared → Prop} (h : isFailed (m.runFor 4).outcome = true) (hq : Q (m.runFor 4) s) : wpAny (model prog w) A (Builtin.Re.reDrive (k + 1) m) Q E s := by
  unfold Builtin.Re.reDrive
  have e : (m.runFor Builtin.Re.reTurnSteps).outcome = some .failed := isFailed_eq h
  dsimp only
  rw [e]
  exact wpAny_pure hq
theorem for_skip {M : Model} {β : Type} {b : β} {B : Nat → β → Sem (ForInStep β)} {Q : β → Shared → Prop} : ∀ (l : List Nat), (∀ (i : Nat) (Q' : ForInStep β → Shared → Prop), Q' (.yield b) s → wpAny M A (B i b) Q' E s) → Q b s → wpAny M A (forIn l b B) Q E s
  | [], _, h => by rw [List.forIn_nil]; exact wpAny_pure h
  | i :: l, hB, h => by
    rw [List.forIn_cons]
    exact wpAny_bind (hB i _ (for_skip l hB h))
theorem run_none {m : Sre.M} {Q : Option Sre.M → Shared → Prop} (h : isFailed (m.runFor 4).outcome = true) (hq : Q none s) : wpAny (model prog w) A (Builtin.Re.reRunToEnd m) Q E s := by
  unfold Builtin.Re.reRunToEnd
  have e2 : (2 ^ 64 : Nat) = 18446744073709551615 + 1 := by decide
  rw [e2]
  refine wpAny_bind (drive_done h ?_)
  refine wpAny_bind (for_skip _ (fun i Q' h' => ?_) ?_)
  · split
    · exact wpAny_bind (wpAny_rule (wpAny_pure h'))
    · exact wpAny_bind (wpAny_pure (wpAny_pure h'))
  · rw [isFailed_eq h]
    exact wpAny_pure hq

/-- the pattern object of the text -/
structure TwinAt (h : Heap) (p : Addr) : Prop where
  pat : ∃ q t1 t2, h.get? p = some { cls := .type "re.Pattern", data := .fields #[.str "([&~|])" t1, .int 32 t2, .int 1 0, .none, .none, .ref q, .int 0 0] } ∧
    ∃ o vs k, h.get? q = some o ∧ o.data = .seq vs k ∧ ((vs.map Builtin.Re.reRawOf).map (·.toNat)) = twinCode
theorem TwinAt.keeps {h h' : Heap} {p : Addr} (T : TwinAt h p) (k : ∀ b o, h.get? b = some o → h'.get? b = some o) : TwinAt h' p := by
  obtain ⟨q, t1, t2, h1, o, vs, n, h2, h3, h4⟩ := T.pat
  exact ⟨q, t1, t2, k _ _ h1, o, vs, n, k _ _ h2, h3, h4⟩
theorem whole_target {p : Addr} {x : Str} {t : Tok} {Q : Builtin.Re.ReTarget → Shared → Prop} (T : TwinAt s.heap p)
    (hq : Q { pattern := .ref p, string := .str x t, code := twinCode, text := x.cps, kind := 0, groups := 1, pos := 0, lim := x.cps.size } s) : wpAny (model prog w) A (Builtin.Re.reWholeTarget (.ref p) (.str x t)) Q E s := by
  obtain ⟨q, t1, t2, h1, o, vs, n, h2, h3, h4⟩ := T.pat
  unfold Builtin.Re.reWholeTarget
  refine wpAny_bind (wpAny_fieldsOf h1 rfl ?_)
  refine wpAny_bind (wpAny_of_eq (a := (x.cps, 0)) (by first | rfl | kernel_rfl) ?_)
  dsimp only
  refine wpAny_bind (wpAny_of_eq (a := ()) (by first | rfl | kernel_rfl) ?_)
  refine wpAny_bind (wpAny_bind (wpAny_seqItems (s := s) h2 h3 (wpAny_pure ?_)))
  refine wpAny_pure ?_
  have e : (((some vs).getD #[]).map Builtin.Re.reRawOf).map (fun x => x.toNat) = twinCode := h4
  rw [e]
  exact hq
theorem sub_loop {p l : Addr} {f : Value} {x : Str} {t : Tok} {R : Result → Shared → Prop} (T : TwinAt s.heap p) (hx : isFailed ((twinM x.cps).runFor 4).outcome = true) (hx1 : x.cps.size = 1) (hl : s.heap.get? l = some { cls := .type "list", data := .seq #[] })
    (hq : ∀ h' tk t', (∀ b o, b ≠ l → s.heap.get? b = some o → h'.get? b = some o) → R (.ok (.ret (.str x t'))) { s with heap := h', toks := tk }) :
    codeAny (model prog w) A (.builtin "re.Pattern.sub.loop" ⟨[.ref p, .str x t, f, rawInt 1, rawInt 0, rawInt 0, rawInt 0, rawInt 0, .bool false, .ref l, .bool false], []⟩) R s := by
  refine codeAny_builtin Fx.entry_ploop ?_
  unfold Builtin.«re.Pattern.sub.loop»
  dsimp only [rawInt]
  refine wpAny_bind (whole_target T ?_)
  rw [if_neg (by decide)]
  refine wpAny_bind (m := if (0 != 0 && decide (0 ≥ 0)) = true then pure none else _) ?_
  rw [if_neg (by decide)]
  unfold Builtin.Re.reNextFound
  rw [show Int.toNat 0 = 0 from rfl, hx1]
  refine run_none hx ?_
  dsimp only
  rw [if_pos (by decide)]
  unfold Builtin.Re.reSlice
  rw [if_pos (by decide), if_pos (by decide)]
  have e1 : (⟨x.cps.extract 0 1⟩ : Str) = x := by
    apply Str.ext'
    rw [← hx1]; simp
  have e2 : (⟨x.cps.extract 0 0⟩ : Str) = Str.empty := by
    apply Str.ext'
    simp [Str.empty]
  rw [e1, e2]
  refine wpAny_bind (wpAny_mkStr ?_ (by rw [sizeLine_eq]; show x.cps.size ≤ _; omega))
  refine wpAny_bind (wpAny_updateSeq hl rfl ?_ (by rw [sizeLine_eq]; decide) (by rw [sizeLine_eq]; show 1 ≤ _; decide))
  refine wpAny_bind (wpAny_mkStr ?_ (by rw [sizeLine_eq]; decide))
  have hl' : (s.heap.update l (Obj.mapSeq fun x_1 => x_1.push (.str x s.toks))).get? l = some { cls := .type "list", data := .seq #[.str x s.toks] 1 } := by
    rw [Heap.get?_update_self _ hl (by rw [Obj.mapSeq_push_plain]; rfl), Obj.mapSeq_push_plain]; rfl
  refine wpAny_bind (wpAny_seqItems hl' rfl ?_)
  rw [if_neg (show ¬ ((some #[Value.str x s.toks]).getD #[]).isEmpty = true from fun h => by cases h)]
  refine wpAny_bind ?_
  refine join_list (ys := [x]) (items := #[.str x s.toks]) ⟨_, hl', rfl, _, rfl⟩ (.cons x _ .nil) (by simp [Str.length, Str.empty, hx1]) fun t' k => ?_
  rw [if_neg (by decide)]
  refine wpAny_pure ?_
  have e3 : Txt.join Str.empty [x] = x := rfl
  rw [e3]
  refine hq _ _ _ fun b o hb e => ?_
  exact (Heap.get?_update_ne _ _ _ _ hb).trans e
theorem sub_call {p fa : Addr} {x : Str} {t : Tok} {Q : Value → Shared → Prop} {of : Obj} (T : TwinAt s.heap p) (hf : s.heap.get? fa = some of) (hfc : of.cls = .type "function") (hx : isFailed ((twinM x.cps).runFor 4).outcome = true) (hx1 : x.cps.size = 1)
    (hq : ∀ h' tk t', (∀ b o, s.heap.get? b = some o → h'.get? b = some o) → Q (.str x t') { s with heap := h', toks := tk }) :
    wpAny (model prog w) A (call (.builtin "re.Pattern.sub") [.ref p, .ref fa, .str x t]) Q E s := by
  have hT : s.TypeIs (.ref p) "re.Pattern" := by
    obtain ⟨q, t1, t2, h1, _⟩ := T.pat
    exact ⟨_, h1, rfl⟩
  have hF : s.TypeIs (.ref fa) "function" := ⟨_, hf, hfc⟩
  refine wpAny_call (codeAny_call_builtin Fx.slot_psub.plain Fx.entry_psub (Fx.slot_psub.check _ _ _ _ _ _ _ _ hT (Fx.args_psub _ _ _) ?_))
  show wpAny _ _ (Builtin.Re.reSubstitute "re.Pattern.sub" "sub" false ⟨[.ref p, .ref fa, .str x t], []⟩) _ _ s
  unfold Builtin.Re.reSubstitute
  dsimp only
  rw [Fx.named_psub]
  refine wpAny_bind (wpAny_pure ?_)
  dsimp only
  refine wpAny_bind (wpAny_pure ?_)
  refine wpAny_bind (wpAny_specialOf hF (r := some (.builtin "function.__call__")) Fx.fn_call ?_)
  rw [if_pos (show (some (Value.builtin "function.__call__")).isSome = true from rfl)]
  refine wpAny_bind (wpAny_pure ?_)
  rw [if_pos (show (some (Value.builtin "function.__call__")).isSome = true from rfl)]
  refine wpAny_bind (wpAny_pure ?_)
  refine wpAny_bind (wpAny_holding (whole_target T ?_))
  dsimp only
  rw [if_pos (by decide)]
  refine wpAny_bind (wpAny_of_eq (a := ()) ?_ ?_)
  · unfold Builtin.Re.reNotHeld
    have : isInstance (.str x t) (.type "bytearray") = pure false := by
      show (do isSubtype (← typeOf (.str x t)) (.type "bytearray")) = _
      exact Fx.sub_sba
    rw [this]; rfl
  refine wpAny_bind (wpAny_newList ?_)
  refine wpAny_pure ?_
  refine ⟨plainId_quiet Fx.plain_ploop _, ?_⟩
  have hk : ∀ b o, s.heap.get? b = some o → (s.heap.push { cls := .type "list", data := .seq #[] }).get? b = some o := fun b o e => Heap.get?_push_of_some _ e
  refine sub_loop (T.keeps hk) hx hx1 (Heap.get?_push_size _ rfl) fun h' tk t' k => ?_
  refine hq h' tk t' fun b o e => k b o (fun q => ?_) (hk b o e)
  rw [q] at e
  exact absurd (Heap.lt_size e) (Nat.lt_irrefl _)
end
structure TwinG (G : Gl) (p : Addr) : Prop where
  glob : G.mg "_twin_re_1" = some (.ref p)
  twin : TwinAt G.g₀ p
  hd : CodeHd G.g₀ G.tc G.tab
  bmain : ∃ bm ob, G.mg "__builtins__" = some (.ref bm) ∧ bm ≠ builtinsNs ∧ G.g₀.get? bm = some ob ∧ ob.cls = .type "module" ∧ ob.dict = some builtinsNs ∧ ob.data = .plain
  tabOk : ∀ {bad : Addr → Prop} {h : Heap}, G.TabOk bad h → ∃ ps : Array Value, h.get? G.tab = some (tabObj ps) ∧ TriplesOk ps.toList
  tabMk : ∀ {bad : Addr → Prop} {h : Heap} {ps : Array Value}, h.get? G.tab = some (tabObj ps) → TriplesOk ps.toList → G.TabOk bad h
theorem triples_snoc {a b : Int} {t u : Tok} {c : Value} : ∀ (l : List Value), TriplesOk l → TriplesOk (l ++ [.int a t, .int b u, c])
  | [], _ => trivial
  | .int _ _ :: .int _ _ :: _ :: rest, h => triples_snoc rest h
section
variable {G : Gl} {n : Nat} {F : Scope} {σ : List V} {pos : Pos} {p : Addr}
theorem wp_lam {params : Arguments} {body : Expr} {scope : Scope} {D : Dyn} {ow : Nat → Option Addr} {s : Shared} {E : Value → Shared → Prop} (T : TwinG G p) (hT : isT F = true) (hdef : ∀ env, defaultsOf params env = ([], [])) (hcl : ∀ env, closureFor scope env = pure [])
    (O : D.Ok G n F) (R : Rel G D ow σ s) :
    wpAny (model G.prog G.w) D.A (eval (.Lambda params body scope pos) D.env) (fun val s' => (∃ f of, val = .ref f ∧ s'.heap.get? f = some of ∧ of.cls = .type "function") ∧ Kt G true s s' ∧ G.TabOk (Bad D ow) s'.heap) E s := by
  obtain ⟨ps, hP, hok⟩ := T.tabOk R.tab
  obtain ⟨bm, ob, b1, b2, b3, b4, b5, b6⟩ := T.bmain
  have hgs := G.g.keeps R.keep
  have hgP : mainGlobals ≠ G.tab := fun q => by
    obtain ⟨o, es, ep, e, hd, _⟩ := hgs
    rw [q, hP] at e; cases e; cases hd
  have hbP : bm ≠ G.tab := fun q => by
    have e := R.keep _ _ b3
    rw [q, hP] at e; cases e; cases b4
  have hbG : bm ≠ mainGlobals := fun q => by
    obtain ⟨o, es, ep, e, hd, _⟩ := G.g
    rw [q, e] at b3; cases b3; rw [hd] at b6; cases b6
  have hB : s.heap.BuiltinsAt G.mg G.tab := ⟨bm, ob, b1, b2, hbG, hbP, R.keep _ _ b3, b4, b5, b6⟩
  refine kla_eval (hdef _) ?_
  cases hnf : codeAmong pos ps.toList with
  | none =>
    refine kla_makeFunction (mg := G.mg) (hcl _) O.glob hgs (O.code hT) (T.hd.keeps R.keep) hP hok hnf hgP hB fun c' ctv h' tk hx hge hlt hrec htb => ?_
    refine ⟨⟨_, _, rfl, Heap.get?_push_size _ rfl, rfl⟩, ⟨_, tk, rfl, fun b o hb e => Heap.get?_push_of_some _ (hx b o (hb rfl) e)⟩, T.tabMk (Heap.get?_push_of_some _ htb) ?_⟩
    rw [Array.toList_append]
    exact triples_snoc _ hok
  | some cv =>
    refine kla_makeFunctionHit (mg := G.mg) (hcl _) O.glob hgs (O.code hT) (T.hd.keeps R.keep) hP hok hnf hB fun ctv h' tk hk hsz => ?_
    exact ⟨⟨_, _, rfl, Heap.get?_push_size _ rfl, rfl⟩, ⟨_, tk, rfl, fun b o hb e => Heap.get?_push_of_some _ (hk b o e)⟩, T.tabMk (Heap.get?_push_of_some _ (hk _ _ hP)) hok⟩
theorem e_resub {params : Arguments} {body : Expr} {scope : Scope} {lpos apos p1 p2 : Pos} {k : Nat} {kd : NameKind} {x : Str} (T : TwinG G p) (hT : isT F = true) (hdef : ∀ env, defaultsOf params env = ([], [])) (hcl : ∀ env, closureFor scope env = pure [])
    (hg : F.names.lookup ("_twin_re_1" : Str) = some .globalImplicit) (hd : (("_twin_re_1" : Str) == ("__debug__" : Str)) = false)
    (hk : idx F "stuff" = some (k, kd)) (hkd : (kd == .local || kd == .cell) = true) (hv : σ[k]? = some (.str x)) (hds : (("stuff" : Str) == ("__debug__" : Str)) = false)
    (hb : ∀ env whole, attributeBase (.Name "_twin_re_1" p1) "sub" env whole = whole) (hfew : ∀ env, ((backTo pos (starEach [.Lambda params body scope lpos, .Name "stuff" p2] env)).all (fun x => !x.1) && (backToKw pos (keywordEach [] env)).all (fun x => x.1.isSome)
      && decide ([Expr.Lambda params body scope lpos, .Name "stuff" p2].length + ([] : List Keyword).length + (if ([] : List Keyword).isEmpty then 0 else 1) < 30)) = true) (hline : (apos.endLine == pos.line) = true)
    (hst : ∀ env, backTo pos (starEach [.Lambda params body scope lpos, .Name "stuff" p2] env) = [(false, eval (.Lambda params body scope lpos) env), (false, eval (.Name "stuff" p2) env)])
    (hx : isFailed ((twinM x.cps).runFor 4).outcome = true) (hx1 : x.cps.size = 1) :
    EP G n F true (.Call (.Attribute (.Name "_twin_re_1" p1) "sub" apos) [.Lambda params body scope lpos, .Name "stuff" p2] [] pos) σ (.str x) := fun D ow s E O R => by
  refine wpAny_Call_method_lateS (hb _ _) (hfew _) hline ((e_global hg T.glob hd (t := true)).go O R fun ov s1 ro K1 R1 => ?_)
  have ro' : ov = .ref p := ro
  subst ro'
  have T1 := T.twin.keeps R1.keep
  obtain ⟨q, t1, t2, h1, _⟩ := T1.pat
  refine ⟨"re.Pattern", "re.Pattern.sub", Fx.plainAttrs_pat, Fx.slot_psub, Fx.ty_psub, ⟨_, h1, rfl⟩, (fun a e => by cases e; exact ⟨_, h1, rfl⟩), ?_⟩
  refine callWith_builtin (by rw [hst]; rfl) (wp_evalArgs (by rw [hst]; rfl) ?_)
  rw [hst]
  refine spliced_cons (wpAny_mono (wpAny_toks (wp_lam T hT hdef hcl O R1)) (fun fv s2 hf => ?_) fun _ _ e => e.2)
  obtain ⟨htk, ⟨fa, of, rfl, hfo, hfc⟩, K2, T2⟩ := hf
  have R2 := R1.kt O K2 htk T2
  refine spliced_cons ((e_var (t := true) (v := .str x) hk hkd hv rfl hds).go O R2 fun sv s3 rs K3 R3 => ?_)
  obtain ⟨u, rfl⟩ := rs
  refine spliced_nil ?_
  have hne : fa ≠ G.tab := fun e => by
    obtain ⟨ps, hP, _⟩ := T.tabOk R2.tab
    rw [e, hP] at hfo; cases hfo; cases hfc
  have hfo3 := K3.at hne hfo
  refine sub_call (T.twin.keeps R3.keep) hfo3 hfc hx hx1 fun h' tk t' kk => ?_
  exact ⟨⟨t', rfl⟩, (K1.trans (K2.trans K3)).trans (Kt.of_keeps kk), Gl.tabKt R3.tab kk⟩
end
section
variable {G : Gl} {n : Nat}
theorem tw_q : isFailed ((twinM (S [63]).cps).runFor 4).outcome = true := twin_q
theorem tw_b : isFailed ((twinM (S [91]).cps).runFor 4).outcome = true := twin_b
theorem isT10 : isT sc10 = true := by decide +kernel
noncomputable def stT (a : Addr) (y : Str) (res : List (Option Str)) (i n : Nat) (wc wj ws : V) : List V := [.str y, .raw (.ref a), .str ".", .own (res.map (tokV a)), .bound 3, .int i, .int n, wc, wj, ws, .unb, .unb, .unb]
theorem int10 : ∀ env : Env, env.scope = sc10 → interactive env = false := fun _ h => by unfold interactive; rw [h]; rfl
/-- the facts of a sign in brackets -/
structure Brk (c : Nat) : Prop where
  h33 : (ch c == "!") = false
  h93 : (ch c == "]") = false
  h45 : Txt.contains (S [c]) "-" = false
  hrep : Txt.replace (S [c]) "\\" "\\\\" = S [c]
  hrun : isFailed ((twinM (S [c]).cps).runFor 4).outcome = true
  s33 : (S [c] == "!") = false
  h94 : ((["^", "["] : List Str).contains (ch c)) = (c == 91)
  hdr : dr c = [91, c, 93]
theorem brk {c : Nat} (h : c = 63 ∨ c = 91) : Brk c := by
  rcases h with rfl | rfl
  · exact ⟨by decide +kernel, by decide +kernel, by decide +kernel, by decide +kernel, tw_q, by decide +kernel, by decide +kernel, by decide +kernel⟩
  · exact ⟨by decide +kernel, by decide +kernel, by decide +kernel, by decide +kernel, tw_b, by decide +kernel, by decide +kernel, by decide +kernel⟩
theorem e_br {t : Bool} {F : Scope} {σ : List V} {s : Str} {e : Expr} {k1 k2 : Nat} {p1 p2 p3 p4 : Pos} (he : EP G n F t e σ (.str s)) (hs : s.length ≤ 100) :
    EP G n F t (.JoinedStr [.Constant (.str "[") k1 p1, .FormattedValue e (-1) none p2, .Constant (.str "]") k2 p3] p4) σ (.str ("[" ++ s ++ "]")) := by
  have ee : (Str.empty).length = 0 := rfl
  have e6 : ("[" : Str).length = 1 := by decide +kernel
  have e7 : ("]" : Str).length = 1 := by decide +kernel
  refine e_is (e_joined (out := Str.empty ++ "[" ++ s ++ "]") (jp_cons e_str ?_ (jp_cons (e_fv he ?_) ?_ (jp_cons e_str ?_ jp_nil))) ?_) ?_
  · rw [ee, e6]; omega
  · omega
  · rw [Str.length_append, ee, e6]; omega
  · rw [Str.length_append, Str.length_append, ee, e6, e7]; omega
  · rw [Str.length_append, Str.length_append, Str.length_append, ee, e6, e7]; omega
  · rw [Str.empty_append]
theorem s_tr (H : Fns G) {p d : Addr} {f : Int → Option Value} (T : TwinG G p) (Te : EscTab G d f) (hf : EscAl f) {a : Addr} {L : List Nat} (hL : ∀ c ∈ L, c ∈ Al) (hadj : NoAdj L) (hlen : L.length ≤ 3000) :
    CallN G (n + 2) true "_translate" [.str (S (L.flatMap dr)), .raw (.ref a), .str "."] (.list ((L.map tokc).map (tokV a))) := by
  refine calln ["pat", "STAR", "QUESTION_MARK"] 10 H.f10 k10 (by decide +kernel) (fun _ _ _ _ _ vals h => by obtain ⟨v, w, u, rfl⟩ := len3 h; rfl) rfl (by simp [V.plain]) ?_
  show EX G (n + 1) sc10 true bd10 [.str (S (L.flatMap dr)), .raw (.ref a), .str ".", .unb, .unb, .unb, .unb, .unb, .unb, .unb, .unb, .unb, .unb] _
  unfold bd10
  have hyl : (S (L.flatMap dr)).length = (L.flatMap dr).length := S_len _
  have hn9 : (L.flatMap dr).length ≤ 9000 := by
    have := posn_le L L.length
    rw [posn_all] at this; omega
  have hsw : ∀ {p1 p2 p3 p4 p5 p6 p7 p8 : Pos} (env : Env), env.scope = sc10 → (p1.line == p2.line) = true → swappedStores [.Tuple [.Name "i" p1, .Name "n" p2] 0 p3] (.Tuple [.Constant (.int 0) 0 p4, .Call (.Name "len" p5) [.Name "pat" p6] [] p7] 0 p8) env = pure (some [("i" : Str), ("n" : Str)]) := by
    intro p1 p2 p3 p4 p5 p6 p7 p8 env h hp
    have hk : env.blockKind = .function := by unfold Env.blockKind; rw [h]; decide +kernel
    have h1 : env.kindOf "i" = some .local := by unfold Env.kindOf; rw [h]; exact (idx_at i10_i).2
    have h2 : env.kindOf "n" = some .local := by unfold Env.kindOf; rw [h]; exact (idx_at i10_n).2
    have hp' : (p2.line == p1.line) = true := by rw [beq_iff_eq] at hp ⊢; exact hp.symm
    have hpos : (Expr.Name "i" p1).pos = p1 := rfl
    unfold swappedStores
    simp only [List.filterMap_cons, List.filterMap_nil, List.head?_cons, Option.map_some, Option.getD_some, hk, h1, h2, hpos, hp', beq_self_eq_true, Bool.and_true, if_true]
    kernel_rfl
  generalize hY : S (L.flatMap dr) = y at *
  have hYc : ∀ k : Nat, y.cps[k]? = (L.flatMap dr)[k]? := fun k => by
    rw [← hY]; simp [S]
  refine x_cons (x_assign_own (l := []) i10_res rfl (f_list sp_nil rfl (Nat.zero_le _)) (Nat.le_of_ble_eq_true rfl) (by simp) (fun _ _ => rfl) ?_)
  refine x_cons (x_assign_bound i10_add rfl i10_res rfl (l := []) rfl d_res (fun _ _ => rfl) (Nat.le_of_ble_eq_true rfl) (fun _ _ => rfl) ?_)
  refine x_cons (x_pair (v := .int 0) (w := .int (L.flatMap dr).length) i10_i rfl i10_n rfl (e_tuple (sp_cons (fun _ => rfl) e_int (sp_one (fun _ => rfl) (e_bcall g10_len H.n_len bb_len nn_len d_len (fun _ => rfl) (fun _ _ => rfl) (sp_one (fun _ => rfl) (e_var i10_pat rfl rfl rfl d_pat)) (hyl ▸ c_len_str (by omega)))) rfl) rfl (Nat.le_of_ble_eq_true rfl)) (Nat.le_of_ble_eq_true rfl) (Nat.le_of_ble_eq_true rfl) (fun _ _ => rfl) (fun env h => hsw env h rfl) ?_)
  dsimp only [List.set_cons_zero, List.set_cons_succ]
  refine x_cons (x_while (fun m σ' => ∃ (k : Nat) (wc wj ws : V), σ' = stT a y ((L.take k).map tokc) (posn L k) (L.flatMap dr).length wc wj ws ∧ k ≤ L.length ∧ m = L.length - k) ?_ L.length ⟨0, .unb, .unb, .unb, rfl, Nat.zero_le _, rfl⟩)
  rintro m σ ⟨k, wc, wj, ws, rfl, hk, rfl⟩
  refine ⟨decide (((posn L k : Nat) : Int) < ((L.flatMap dr).length : Nat)), t_cmpv rfl (e_var i10_i rfl rfl rfl d_i) (e_var i10_n rfl rfl rfl d_n) (CmpV.lti _ _), fun hb => ?_, fun hb => ?_⟩
  · have hklt : k < L.length := by
      rcases Nat.lt_or_eq_of_le hk with h | h
      · exact h
      · rw [h, posn_all] at hb
        have := of_decide_eq_true hb
        omega
    obtain ⟨c, hc⟩ : ∃ c, L[k]? = some c := ⟨_, List.getElem?_eq_getElem hklt⟩
    have hcA := hL c (List.mem_of_getElem? hc)
    have hstep := posn_step hc
    have hle := pos_lt hc
    have hpk := posn_le L k
    have hres : (L.take (k + 1)).map tokc = (L.take k).map tokc ++ [tokc c] := by
      rw [List.take_add_one, hc, List.map_append]; rfl
    have hrl : (((L.take k).map tokc).map (tokV a)).length ≤ 3000 := by
      rw [List.length_map, List.length_map, List.length_take]; omega
    have hat : ∀ j, j < (dr c).length → (L.flatMap dr)[posn L k + j]? = (dr c)[j]? := fun j hj => at_dr hc hj
    have hfin : ∀ (wc wj ws : V) (ii : Int), ii = ((posn L k + (dr c).length : Nat) : Int) →
        ∃ j, j < L.length - k ∧ ∃ (k' : Nat) (wc' wj' ws' : V), [.str y, .raw (.ref a), .str ".", .own (((L.take k).map tokc).map (tokV a) ++ [tokV a (tokc c)]), .bound 3, .int ii, .int (L.flatMap dr).length, wc, wj, ws, .unb, .unb, .unb] = stT a y ((L.take k').map tokc) (posn L k') (L.flatMap dr).length wc' wj' ws' ∧ k' ≤ L.length ∧ j = L.length - k' := by
      intro wc wj ws ii hii
      refine ⟨L.length - (k + 1), by omega, k + 1, wc, wj, ws, ?_, by omega, rfl⟩
      unfold stT
      rw [hres, List.map_append, hii, hstep]; rfl
    have hprev : ∀ k', k = k' + 1 → c = 42 → ∃ x, ((((L.take k).map tokc).map (tokV a))[((-1 : Int) + (((L.take k).map tokc).map (tokV a)).length).toNat]?) = some (.str x) := by
      intro k' hk' hc42
      obtain ⟨c', hc'⟩ : ∃ c', L[k']? = some c' := ⟨_, List.getElem?_eq_getElem (by omega)⟩
      have hne : c' ≠ 42 := fun e => by
        subst e; subst hc42; subst hk'
        exact noadj_at hadj hc' hc
      have hlen2 : (((L.take k).map tokc).map (tokV a)).length = k := by
        rw [List.length_map, List.length_map, List.length_take]; omega
      refine ⟨S (Eb c'), ?_⟩
      rw [hlen2, show ((-1 : Int) + (k : Nat)).toNat = k' by omega, List.getElem?_map, List.getElem?_map, List.getElem?_take_of_lt (by omega), hc']
      show some (tokV a (tokc c')) = _
      unfold tokc; rw [if_neg hne]; rfl
    have hnil : k = 0 → ((L.take k).map tokc).map (tokV a) = [] := fun h => by rw [h]; rfl
    have hnn : k ≠ 0 → (((L.take k).map tokc).map (tokV a)).isEmpty = false := fun h => by
      cases hq : ((L.take k).map tokc).map (tokV a) with
      | nil =>
        have := congrArg List.length hq
        rw [List.length_map, List.length_map, List.length_take, List.length_nil] at this
        omega
      | cons => rfl
    unfold stT
    generalize ((L.take k).map tokc).map (tokV a) = res at *
    generalize hnL : (L.flatMap dr).length = nn at *
    generalize posn L k = i at *
    by_cases hbr : c = 63 ∨ c = 91
    · have B := brk hbr
      have hdr := B.hdr
      have h0 : y.cps[i]? = some 91 := by
        have := hat 0 (by rw [hdr]; simp)
        rw [hYc]
        rw [Nat.add_zero] at this
        rw [this, hdr]; rfl
      have h1 : y.cps[i + 1]? = some c := by
        have := hat 1 (by rw [hdr]; simp)
        rw [hYc, this, hdr]; rfl
      have h2 : y.cps[i + 2]? = some 93 := by
        have := hat 2 (by rw [hdr]; simp)
        rw [hYc, this, hdr]; rfl
      rw [hdr] at hfin hle
      have hle3 : i + 3 ≤ nn := hle
      have hok : tokV a (tokc c) = .str (S (Eb c)) := by
        unfold tokc
        rw [if_neg (by omega)]; rfl
      rw [hok] at hfin
      have eA : ((i : Int) + 1) = ((i + 1 : Nat) : Int) := by omega
      refine x_cons (xs_assign (v := .str (ch 91)) i10_c rfl (e_item_str (c := 91) (fun _ _ => ⟨_, rfl⟩) (e_var i10_pat rfl rfl rfl d_pat) (e_var i10_i rfl rfl rfl d_i) (by omega) (by omega) (by simpa using h0)) rfl (fun _ _ => rfl) (by dsimp only [List.set_cons_zero, List.set_cons_succ] <;> rfl) (Nat.le_of_ble_eq_true rfl) ?_)
      refine x_cons (xs_assign (v := .int ((i + 1 : Nat) : Int)) i10_i rfl (e_is (e_bin (e_var i10_i rfl rfl rfl d_i) e_int (BinV.addi _ _)) (by rw [eA])) rfl (fun _ _ => rfl) (by dsimp only [List.set_cons_zero, List.set_cons_succ] <;> rfl) (Nat.le_of_ble_eq_true rfl) ?_)
      refine x_cons (x_if (b := false) (t_is (b := (ch 91 == "*")) (t_cmpv rfl (e_var i10_c rfl rfl rfl d_c) e_str (CmpV.eqs _ _)) (by decide +kernel)) (fun h => nomatch h) (fun _ => ?_))
      refine x_cons (x_if (b := false) (t_is (b := (ch 91 == "?")) (t_cmpv rfl (e_var i10_c rfl rfl rfl d_c) e_str (CmpV.eqs _ _)) (by decide +kernel)) (fun h => nomatch h) (fun _ => ?_))
      refine x_cons (x_if (b := true) (t_is (b := (ch 91 == "[")) (t_cmpv rfl (e_var i10_c rfl rfl rfl d_c) e_str (CmpV.eqs _ _)) (by decide +kernel)) (fun _ => ?_) (fun h => nomatch h))
      refine x_cons (xs_assign (v := .int ((i + 1 : Nat) : Int)) i10_j rfl (e_var i10_i rfl rfl rfl d_i) rfl (fun _ _ => rfl) (by dsimp only [List.set_cons_zero, List.set_cons_succ] <;> rfl) (Nat.le_of_ble_eq_true rfl) ?_)
      have hitem : ∀ {p1 p2 p3 : Pos} {jj cc : Nat} {ws : V}, y.cps[jj]? = some cc → jj ≤ 10000 → EP G (n + 1) sc10 true (.Subscript (.Name "pat" p1) (.Name "j" p2) p3) [.str y, .raw (.ref a), .str ".", .own res, .bound 3, .int ((i + 1 : Nat) : Int), .int (nn : Int), .str (ch 91), .int (jj : Int), ws, .unb, .unb, .unb] (.str (ch cc)) := fun h hj =>
        e_item_str (fun _ _ => ⟨_, rfl⟩) (e_var i10_pat rfl rfl rfl d_pat) (e_var i10_j rfl rfl rfl d_j) (by omega) (by omega) (by simpa using h)
      refine x_cons (x_if (b := false) (t_is (b := (decide (((i + 1 : Nat) : Int) < (nn : Int)) && ((ch c == "!") && true))) (t_bool (tl_and (t_cmpv rfl (e_var i10_j rfl rfl rfl d_j) (e_var i10_n rfl rfl rfl d_n) (CmpV.lti _ _)) (fun _ => tl_and (t_cmpv rfl (hitem h1 (by omega)) e_str (CmpV.eqs _ _)) (fun _ => tl_and_nil)))) (by rw [B.h33]; simp)) (fun h => nomatch h) (fun _ => x_nil ?_))
      refine x_cons (x_if (b := false) (t_is (b := (decide (((i + 1 : Nat) : Int) < (nn : Int)) && ((ch c == "]") && true))) (t_bool (tl_and (t_cmpv rfl (e_var i10_j rfl rfl rfl d_j) (e_var i10_n rfl rfl rfl d_n) (CmpV.lti _ _)) (fun _ => tl_and (t_cmpv rfl (hitem h1 (by omega)) e_str (CmpV.eqs _ _)) (fun _ => tl_and_nil)))) (by rw [B.h93]; simp)) (fun h => nomatch h) (fun _ => x_nil ?_))
      refine x_cons (x_while (fun m σ' => ∃ jj : Nat, (jj = i + 1 ∨ jj = i + 2) ∧ m = i + 2 - jj ∧ σ' = [.str y, .raw (.ref a), .str ".", .own res, .bound 3, .int ((i + 1 : Nat) : Int), .int (nn : Int), .str (ch 91), .int (jj : Int), ws, .unb, .unb, .unb]) ?_ 1 ⟨i + 1, .inl rfl, by omega, rfl⟩)
      rintro m σ ⟨jj, hjj, rfl, rfl⟩
      refine ⟨decide (jj = i + 1), ?_, fun hb2 => ?_, fun hb2 => ?_⟩
      · rcases hjj with rfl | rfl
        · refine t_is (b := (decide (((i + 1 : Nat) : Int) < (nn : Int)) && ((ch c != "]") && true))) (t_bool (tl_and (t_cmpv rfl (e_var i10_j rfl rfl rfl d_j) (e_var i10_n rfl rfl rfl d_n) (CmpV.lti _ _)) (fun _ => tl_and (t_cmpv rfl (hitem h1 (by omega)) e_str (CmpV.nes _ _)) (fun _ => tl_and_nil)))) ?_
          have hlt : (((i + 1 : Nat) : Int) < (nn : Int)) := by omega
          unfold bne
          rw [B.h93]; simp [hlt]
          omega
        · refine t_is (b := (decide (((i + 2 : Nat) : Int) < (nn : Int)) && ((ch 93 != "]") && true))) (t_bool (tl_and (t_cmpv rfl (e_var i10_j rfl rfl rfl d_j) (e_var i10_n rfl rfl rfl d_n) (CmpV.lti _ _)) (fun _ => tl_and (t_cmpv rfl (hitem h2 (by omega)) e_str (CmpV.nes _ _)) (fun _ => tl_and_nil)))) ?_
          rw [show (ch 93 != "]") = false by decide +kernel]
          simp
      · have hj2 : jj = i + 1 := of_decide_eq_true hb2
        subst hj2
        refine x_cons (xs_assign (v := .int ((i + 2 : Nat) : Int)) i10_j rfl (e_is (e_bin (e_var i10_j rfl rfl rfl d_j) e_int (BinV.addi _ _)) (by congr 1)) rfl (fun _ _ => rfl) (by dsimp only [List.set_cons_zero, List.set_cons_succ] <;> rfl) (Nat.le_of_ble_eq_true rfl) (x_nil ⟨0, by omega, i + 2, .inr rfl, by omega, rfl⟩))
      · have hj2 : jj = i + 2 := by
          have := of_decide_eq_false hb2
          omega
        subst hj2
        refine x_cons (x_if (b := false) (t_is (b := decide ((nn : Int) ≤ ((i + 2 : Nat) : Int))) (t_cmpv rfl (e_var i10_j rfl rfl rfl d_j) (e_var i10_n rfl rfl rfl d_n) (CmpV.gei _ _)) (by rw [decide_eq_false_iff_not]; omega)) (fun h => nomatch h) (fun _ => ?_))
        have hcS : Txt.slice y (some ((i + 1 : Nat) : Int)) (some ((i + 2 : Nat) : Int)) = S [c] := by
          have h1' : y.cps.toList[i + 1]? = some c := by simpa using h1
          rw [slice_nat, show i + 2 - (i + 1) = 1 by omega]
          have hlt : i + 1 < y.cps.toList.length := (List.getElem?_eq_some_iff.mp h1').1
          rw [List.drop_eq_getElem_cons hlt]
          rw [List.getElem?_eq_getElem hlt] at h1'
          rw [Option.some.inj h1']; rfl
        have hyl2 : y.length ≤ 9000 := by rw [hyl]; exact hn9
        refine x_cons (xs_assign (v := .str (S [c])) i10_stuff rfl (e_is (e_slice_str (e_var i10_pat rfl rfl rfl d_pat) (pp_some (e_var i10_i rfl rfl rfl d_i)) (pp_some (e_var i10_j rfl rfl rfl d_j)) (by omega)) (by rw [hcS])) rfl (fun _ _ => rfl) (by dsimp only [List.set_cons_zero, List.set_cons_succ] <;> rfl) (Nat.le_of_ble_eq_true rfl) ?_)
        refine x_cons (x_if (b := true) (t_is (b := !Txt.contains (S [c]) "-") (t_cmpv rfl e_str (e_var i10_stuff rfl rfl rfl d_stuff) (CmpV.notins _ _)) (by rw [B.h45]; rfl)) (fun _ => ?_) (fun h => nomatch h))
        refine x_cons (xs_assign (v := .str (S [c])) i10_stuff rfl (e_is (e_replace ty_replace (fun _ _ => rfl) (fun _ => rfl) rfl H.t0 (by decide +kernel) (by rw [S_len]; simp) (by decide +kernel) (e_var i10_stuff rfl rfl rfl d_stuff)) (by rw [B.hrep])) rfl (fun _ _ => rfl) (by dsimp only [List.set_cons_zero, List.set_cons_succ] <;> rfl) (Nat.le_of_ble_eq_true rfl) (x_nil ?_))
        refine x_cons (xs_assign (v := .str (S [c])) i10_stuff rfl (e_resub T isT10 (fun _ => rfl) (fun _ => rfl) g10__twin_re_1 (by decide +kernel) i10_stuff rfl rfl d_stuff (fun _ _ => rfl) (fun _ => rfl) rfl (fun _ => rfl) B.hrun rfl) rfl (fun _ _ => rfl) (by dsimp only [List.set_cons_zero, List.set_cons_succ] <;> rfl) (Nat.le_of_ble_eq_true rfl) ?_)
        refine x_cons (xs_assign (v := .int ((i + 3 : Nat) : Int)) i10_i rfl (e_is (e_bin (e_var i10_j rfl rfl rfl d_j) e_int (BinV.addi _ _)) (by congr 1)) rfl (fun _ _ => rfl) (by dsimp only [List.set_cons_zero, List.set_cons_succ] <;> rfl) (Nat.le_of_ble_eq_true rfl) ?_)
        refine x_cons (x_if (b := false) (t_is (t_not (t_val (fun _ _ => rfl) (e_var i10_stuff rfl rfl rfl d_stuff) (TruV.s (by rw [S_len]; simp)))) (by rw [S_len]; rfl)) (fun h => nomatch h) (fun _ => ?_))
        refine x_cons (x_if (b := false) (t_is (b := (S [c] == "!")) (t_cmpv rfl (e_var i10_stuff rfl rfl rfl d_stuff) e_str (CmpV.eqs _ _)) B.s33) (fun h => nomatch h) (fun _ => ?_))
        have hitem0 : ∀ {p1 p2 p3 : Pos} {k0 : Nat} {σ : List V} (he : ∀ {p : Pos}, EP G (n + 1) sc10 true (.Name "stuff" p) σ (.str (S [c]))), EP G (n + 1) sc10 true (.Subscript (.Name "stuff" p1) (.Constant (.int 0) k0 p2) p3) σ (.str (ch c)) := fun he => e_item_str (fun _ _ => ⟨_, rfl⟩) he e_int (by decide) (by decide) (by simp [S])
        have tail : EX G (n + 1) sc10 true [] [] (fun _ _ => True) := x_nil trivial
        refine x_cons (x_if (b := false) (t_is (b := (ch c == "!")) (t_cmpv rfl (hitem0 (e_var i10_stuff rfl rfl rfl d_stuff)) e_str (CmpV.eqs _ _)) B.h33) (fun h => nomatch h) (fun _ => ?_))
        refine x_cons (x_if (b := (["^", "["] : List Str).contains (ch c)) (t_cmpv rfl (hitem0 (e_var i10_stuff rfl rfl rfl d_stuff)) (e_tuple (sp_cons (fun _ => rfl) e_str (sp_one (fun _ => rfl) e_str) rfl) rfl (Nat.le_of_ble_eq_true rfl)) (CmpV.instr _ ["^", "["])) (fun h => ?_) (fun h => x_nil ?_))
        · rw [B.h94] at h
          have hc91 : c = 91 := by simpa using h
          refine x_cons (xs_assign (v := .str (S [92, 91])) i10_stuff rfl (e_is (e_bin e_str (e_var i10_stuff rfl rfl rfl d_stuff) (BinV.adds (by rw [S_len, show ("\\" : Str).length = 1 from by decide +kernel]; simp))) (by rw [hc91]; exact congrArg V.str (by decide +kernel : ("\\" : Str) ++ S [91] = S [92, 91]))) rfl (fun _ _ => rfl) (by dsimp only [List.set_cons_zero, List.set_cons_succ] <;> rfl) (Nat.le_of_ble_eq_true rfl) (x_nil (x_nil ?_)))
          refine x_cons (x_add (y := "res") (v := .str (S (Eb c))) i10_res rfl i10_add rfl rfl rfl d_add (fun _ => rfl) (e_is (e_br (e_var i10_stuff rfl rfl rfl d_stuff) (by rw [S_len]; simp)) (by rw [hc91]; exact congrArg V.str (by decide +kernel : ("[" : Str) ++ S [92, 91] ++ "]" = S (Eb 91)))) rfl (fun _ => rfl) (by omega) int10 ?_)
          repeat (refine x_nil ?_)
          exact hfin _ _ _ _ (by simp)
        · rw [B.h94] at h
          have hc63 : c = 63 := by
            rcases hbr with h1 | h1
            · exact h1
            · rw [h1] at h; simp at h
          refine x_nil ?_
          refine x_cons (x_add (y := "res") (v := .str (S (Eb c))) i10_res rfl i10_add rfl rfl rfl d_add (fun _ => rfl) (e_is (e_br (e_var i10_stuff rfl rfl rfl d_stuff) (by rw [S_len]; simp)) (by rw [hc63]; exact congrArg V.str (by decide +kernel : ("[" : Str) ++ S [63] ++ "]" = S (Eb 63)))) rfl (fun _ => rfl) (by omega) int10 ?_)
          repeat (refine x_nil ?_)
          exact hfin _ _ _ _ (by simp)
    · have hdr : dr c = [c] := by unfold dr; rw [if_neg hbr]
      have h0 : y.cps[i]? = some c := by
        have := hat 0 (by rw [hdr]; simp)
        rw [hYc]
        rw [Nat.add_zero] at this
        rw [this, hdr]; rfl
      rw [hdr] at hfin hle
      have hle1 : i + 1 ≤ nn := hle
      refine x_cons (xs_assign (v := .str (ch c)) i10_c rfl (e_item_str (c := c) (fun _ _ => ⟨_, rfl⟩) (e_var i10_pat rfl rfl rfl d_pat) (e_var i10_i rfl rfl rfl d_i) (by omega) (by omega) (by simpa using h0)) rfl (fun _ _ => rfl) (by dsimp only [List.set_cons_zero, List.set_cons_succ] <;> rfl) (Nat.le_of_ble_eq_true rfl) ?_)
      refine x_cons (xs_assign (v := .int ((i : Int) + 1)) i10_i rfl (e_bin (e_var i10_i rfl rfl rfl d_i) e_int (BinV.addi _ _)) rfl (fun _ _ => rfl) (by dsimp only [List.set_cons_zero, List.set_cons_succ] <;> rfl) (Nat.le_of_ble_eq_true rfl) ?_)
      by_cases hst : c = 42
      · have hok : tokV a (tokc c) = .raw (.ref a) := by unfold tokc; rw [if_pos hst]; rfl
        rw [hok] at hfin
        refine x_cons (x_if (b := true) (t_is (b := (ch c == "*")) (t_cmpv rfl (e_var i10_c rfl rfl rfl d_c) e_str (CmpV.eqs _ _)) (by rw [hst]; decide +kernel)) (fun _ => ?_) (fun h => nomatch h))
        refine x_cons (x_if (b := true) ?_ (fun _ => ?_) (fun h => nomatch h))
        · by_cases hk0 : k = 0
          · refine t_or1 (t_is (t_not (t_val (fun _ _ => rfl) (e_own i10_res rfl rfl d_res) (TruV.o (by omega)))) ?_)
            rw [hnil hk0]; rfl
          · obtain ⟨k', hk'⟩ : ∃ k', k = k' + 1 := ⟨k - 1, by omega⟩
            obtain ⟨x, hx⟩ := hprev k' hk' hst
            refine t_or2 (t_is (t_not (t_val (fun _ _ => rfl) (e_own i10_res rfl rfl d_res) (TruV.o (by omega)))) ?_) (t_cmpv rfl (e_item_neg (fun _ _ => ⟨_, rfl⟩) (e_own i10_res rfl rfl d_res) (e_is (e_neg e_int) rfl) (by decide) ?_ (by decide) hx) (e_var i10_STAR rfl rfl rfl d_STAR) (CmpV.isnotstr _ _))
            · rw [hnn hk0]; rfl
            · have := hnn hk0
              cases hq : res with
              | nil => rw [hq] at this; cases this
              | cons => rw [List.length_cons]; omega
        · refine x_cons (x_add (y := "res") i10_res rfl i10_add rfl rfl rfl d_add (fun _ => rfl) (e_var i10_STAR rfl rfl rfl d_STAR) rfl (fun _ => rfl) (by omega) int10 (x_nil (x_nil (x_nil ?_))))
          exact hfin _ _ _ _ (by show (i : Int) + 1 = ((i + 1 : Nat) : Int); omega)
      · have hok : tokV a (tokc c) = .str (S (Ec c)) := by
          unfold tokc Eb
          rw [if_neg hst, if_neg (fun h => hbr (.inl h)), if_neg (fun h => hbr (.inr h))]; rfl
        rw [hok] at hfin
        have n1 : (ch c == "*") = false := by rw [star_ch, ch_eq]; simpa using hst
        have n2 : (ch c == "?") = false := by
          rw [show ("?" : Str) = ch 63 by decide +kernel, ch_eq]
          simpa using fun h => hbr (.inl h)
        have n3 : (ch c == "[") = false := by
          rw [show ("[" : Str) = ch 91 by decide +kernel, ch_eq]
          simpa using fun h => hbr (.inr h)
        refine x_cons (x_if (b := false) (t_is (b := (ch c == "*")) (t_cmpv rfl (e_var i10_c rfl rfl rfl d_c) e_str (CmpV.eqs _ _)) n1) (fun h => nomatch h) (fun _ => ?_))
        refine x_cons (x_if (b := false) (t_is (b := (ch c == "?")) (t_cmpv rfl (e_var i10_c rfl rfl rfl d_c) e_str (CmpV.eqs _ _)) n2) (fun h => nomatch h) (fun _ => ?_))
        refine x_cons (x_if (b := false) (t_is (b := (ch c == "[")) (t_cmpv rfl (e_var i10_c rfl rfl rfl d_c) e_str (CmpV.eqs _ _)) n3) (fun h => nomatch h) (fun _ => ?_))
        refine x_cons (x_add (y := "res") (v := .str (S (Ec c))) i10_res rfl i10_add rfl rfl rfl d_add (fun _ => rfl) (e_is (e_gcall g10_escape d_escape (fun _ => rfl) (fun _ _ => rfl) (sp_one (fun _ => rfl) (e_var i10_c rfl rfl rfl d_c)) (s_esc (n := n) (l := [c]) H Te hf (fun c' h => by rw [List.mem_singleton.mp h]; exact hcA) (by simp))) (by simp)) rfl (fun _ => rfl) (by omega) int10 (x_nil (x_nil (x_nil (x_nil ?_)))))
        exact hfin _ _ _ _ (by show (i : Int) + 1 = ((i + 1 : Nat) : Int); omega)
  · have hk2 : k = L.length := by
      rcases Nat.lt_or_eq_of_le hk with h | h
      · have h1 := pos_lt (List.getElem?_eq_getElem h)
        have h2 := dr_len L[k]
        have := of_decide_eq_false hb
        omega
      · exact h
    subst hk2
    rw [List.take_length, posn_all]
    refine x_cons (x_assert (t_is (b := (((L.flatMap dr).length : Int) == ((L.flatMap dr).length : Int))) (t_cmpv rfl (e_var i10_i rfl rfl rfl d_i) (e_var i10_n rfl rfl rfl d_n) (CmpV.eqi _ _)) (by rw [beq_self_eq_true])) ?_)
    exact x_cons (x_return_own i10_res rfl rfl d_res rfl)
end
namespace Fx
theorem slot_map_init : Slot "map" "__init__" "object.__init__" :=
  .of (owner := "object") (n := "__init__") (by rw [typeLookup_type, builtinLookup_eq_fast]; kernel_rfl) (by decide +kernel) (by decide +kernel) (by decide +kernel)
    (by first | exact .inl (by decide +kernel) | exact .inr (by decide +kernel)) (by rw [isSubtype_type]; kernel_rfl)
theorem slot_map_iter : Slot "map" "__iter__" "map.__iter__" :=
  .of (owner := "map") (n := "__iter__") (by rw [typeLookup_type, builtinLookup_eq_fast]; kernel_rfl) (by decide +kernel) (by decide +kernel) (by decide +kernel)
    (by first | exact .inl (by decide +kernel) | exact .inr (by decide +kernel)) (by rw [isSubtype_type]; kernel_rfl)
theorem slot_map_next : Slot "map" "__next__" "map.__next__" :=
  .of (owner := "map") (n := "__next__") (by rw [typeLookup_type, builtinLookup_eq_fast]; kernel_rfl) (by decide +kernel) (by decide +kernel) (by decide +kernel)
    (by first | exact .inl (by decide +kernel) | exact .inr (by decide +kernel)) (by rw [isSubtype_type]; kernel_rfl)
theorem entry_map_next : entryFor table "map.__next__" = some Builtin.«map.__next__» := entryFor_of_tree (by kernel_rfl)
theorem entry_map_new : entryFor table "map.__new__" = some Builtin.«map.__new__» := entryFor_of_tree (by kernel_rfl)
theorem entry_map_iter : entryFor table "map.__iter__" = some Builtin.«dict_keyiterator.__iter__» :=
  entryFor_alias (id' := "dict_keyiterator.__iter__") (by kernel_rfl) (by first | rfl | decide +kernel | (unfold String.splitOn; simp +decide [String.splitOnAux])) (by decide +kernel) (by kernel_rfl)
theorem args_map_next (a : Value) : argsOk "map.__next__" ⟨[a], []⟩ := by unfold argsOk; kernel_rfl
theorem args_map_iter (a : Value) : argsOk "map.__iter__" ⟨[a], []⟩ := by unfold argsOk; kernel_rfl
theorem mro_map : mroOf (.type "map") = pure [.type "map", .type "object"] := by rw [mroOf_type]; kernel_rfl
theorem lookup_map_new : typeLookup (.type "map") "__new__" = pure (some (.builtin "map.__new__")) := by rw [typeLookup_type, builtinLookup_eq_fast]; kernel_rfl
theorem called_map : TypeCalled "map" "map.__new__" "object.__init__" :=
  ⟨by decide +kernel, by decide +kernel, ⟨_, _, mro_map⟩, madeBy_type mro_map lookup_map_new (by decide +kernel), by decide +kernel, by rw [isSubtype_type]; kernel_rfl, slot_map_init⟩
theorem tcall_map (a b : Value) : checkTypeCall "map" ⟨[a, b], []⟩ = pure () := by kernel_rfl
theorem ncall_map (a b : Value) : checkBuiltinCall "map.__new__" ⟨[.type "map", a, b], []⟩ = pure () := by kernel_rfl
theorem args_init3 (a b c : Value) : argsOk "object.__init__" ⟨[a, b, c], []⟩ := by unfold argsOk; kernel_rfl
theorem sub_map : isSubtype (.type "map") (.type "map") = pure true := by rw [isSubtype_type]; kernel_rfl
theorem map_no_len : typeLookup (.type "map") "__len__" = pure none := by rw [typeLookup_type, builtinLookup_eq_fast]; kernel_rfl
theorem map_no_hint : typeLookup (.type "map") "__length_hint__" = pure none := by rw [typeLookup_type, builtinLookup_eq_fast]; kernel_rfl
theorem plain_map_new : plainId "map.__new__" = true := by decide +kernel
end Fx

noncomputable abbrev IsMap (h : Heap) (m TI : Addr) (f : Value) : Prop := h.get? m = some { cls := .type "map", data := .fields #[.ref TI, f] }
noncomputable abbrev IsOne (h : Heap) (T : Addr) (a : Value) : Prop := h.get? T = some { cls := .type "tuple", data := .seq #[a] }
noncomputable abbrev mapH1 (h : Heap) (l : Addr) : Heap := h.push { cls := .type "list_iterator", data := .fields #[.ref l, .int 0 0] }
noncomputable abbrev mapH2 (h : Heap) (l : Addr) : Heap := (mapH1 h l).push { cls := .type "tuple", data := .seq #[.ref h.objs.size] }
noncomputable abbrev mapH3 (h : Heap) (f : Value) (l : Addr) : Heap := (mapH2 h l).push { cls := .type "map", data := .fields #[.ref (mapH1 h l).objs.size, f] }
theorem meets_map_new (f : Value) (l : Addr) (xs : Array Value) :
    Meets (Builtin.«map.__new__» ⟨[.type "map", f, .ref l], []⟩) (fun _ R s => s.heap.IsList l xs ∧ R (.ok (.ret (.ref (mapH2 s.heap l).objs.size))) { s with heap := mapH3 s.heap f l }) :=
  .of_wp fun prog w A R s h => by
    obtain ⟨hp, g, d, tk, os⟩ := s; obtain ⟨hl1, h⟩ := h
    have hsub := Fx.sub_map
    have hL1 : Heap.IsList (Shared.heap ⟨hp, g, d, tk, os⟩) l xs := hl1
    wp_walk using wpAny_pyIter_list hL1
    exact ⟨_, rfl, h⟩
section
variable {prog : Program} {w : World} {A : Around} {E : Value → Shared → Prop} {s : Shared}
theorem call_map {f : Value} {l : Addr} {xs : Array Value} {Q : Value → Shared → Prop} (hl : s.heap.IsList l xs)
    (h : ∀ h', IsMap h' (s.heap.objs.size + 2) (s.heap.objs.size + 1) f → IsOne h' (s.heap.objs.size + 1) (.ref s.heap.objs.size) → h'.IsListIter s.heap.objs.size l 0 → h'.objs.size = s.heap.objs.size + 3 →
      (∀ c o, s.heap.get? c = some o → h'.get? c = some o) → Q (.ref (s.heap.objs.size + 2)) { s with heap := h' }) :
    wpAny (model prog w) A (call (.type "map") [f, .ref l]) Q E s := by
  refine callType_new Fx.called_map (by decide) (Fx.tcall_map _ _) (Fx.ncall_map _ _) (fun obj => Fx.args_init3 obj _ _) Fx.entry_map_new (meets_map_new f l xs) ⟨hl, ?_⟩
  have z1 : (mapH1 s.heap l).objs.size = s.heap.objs.size + 1 := Heap.size_push ..
  have z2 : (mapH2 s.heap l).objs.size = s.heap.objs.size + 2 := by rw [Heap.size_push, z1]
  have z3 : (mapH3 s.heap f l).objs.size = s.heap.objs.size + 3 := by rw [Heap.size_push, z2]
  have g3 : (mapH3 s.heap f l).get? (mapH2 s.heap l).objs.size = some _ := Heap.get?_push_size _ rfl
  have g2 : (mapH3 s.heap f l).get? (mapH1 s.heap l).objs.size = some _ := Heap.get?_push_of_some _ (Heap.get?_push_size _ rfl)
  have g1 : (mapH3 s.heap f l).get? s.heap.objs.size = some _ := Heap.get?_push_of_some _ (Heap.get?_push_of_some _ (Heap.get?_push_size _ rfl))
  show _ ∧ _
  rw [z2] at g3 ⊢
  rw [z1] at g2 g3
  exact ⟨⟨_, g3, rfl⟩, h _ g3 g2 ⟨_, g1, rfl, rfl⟩ z3 fun c o x => Heap.get?_push_of_some _ (Heap.get?_push_of_some _ (Heap.get?_push_of_some _ x))⟩

theorem map_next_item {m TI it l : Addr} {k : Nat} {f x : Value} {xs : Array Value} {Q : Value → Shared → Prop} (hm : IsMap s.heap m TI f) (hTI : IsOne s.heap TI (.ref it)) (hi : s.heap.IsListIter it l k) (hl : s.heap.IsList l xs) (hx : xs[k]? = some x) (hmi : m ≠ it)
    (hQ : ∀ h', h'.IsListIter it l (k + 1) → Heap.SameBut it s.heap h' → wpAny (model prog w) A (call f [x]) Q E { s with heap := h' }) :
    wpAny (model prog w) A (Builtin.«map.__next__» ⟨[.ref m], []⟩) (fun fin s' => ∃ v, fin = .done (.ret v) ∧ Q v s') E s := by
  show wpAny _ _ (field (.ref m) 0 >>= _) _ _ _
  refine wpAny_bind (wpAny_field hm rfl (x := .ref TI) rfl ?_)
  refine wpAny_bind (wpAny_seqItems hTI rfl ?_)
  show wpAny _ _ (forIn (#[.ref it] : Array Value) _ _ >>= _) _ _ _
  refine wpAny_bind ?_
  simp only [← Array.forIn_toList, List.forIn_cons, List.forIn_nil]
  refine wpAny_bind (wpAny_bind (wpAny_holding (wpAny_nextOf_list_item hi hl hx fun h' hi' hs' => wpAny_pure (wpAny_pure ?_))))
  refine wpAny_bind (wpAny_field (hs'.extBut _ _ hmi hm) rfl (x := f) rfl ?_)
  refine wpAny_bind (wpAny_holding ?_)
  refine wpAny_mono (hQ h' hi' hs') (fun v s' hv => ?_) fun _ _ e => e
  exact wpAny_bind (wpAny_letGo (wpAny_pure ⟨v, rfl, hv⟩))
theorem map_next_end {m TI it l : Addr} {k : Nat} {f : Value} {xs : Array Value} {Q : Fin → Shared → Prop} (hh : A.handled = none) (hm : IsMap s.heap m TI f) (hTI : IsOne s.heap TI (.ref it)) (hi : s.heap.IsListIter it l k) (hl : s.heap.IsList l xs) (hx : xs[k]? = none)
    (hE : ∀ h' e, Heap.ExtBut it s.heap h' → (∃ o, h'.get? e = some o ∧ o.cls = .type "StopIteration") → E (.ref e) { s with heap := h' }) :
    wpAny (model prog w) A (Builtin.«map.__next__» ⟨[.ref m], []⟩) Q E s := by
  show wpAny _ _ (field (.ref m) 0 >>= _) _ _ _
  refine wpAny_bind (wpAny_field hm rfl (x := .ref TI) rfl ?_)
  refine wpAny_bind (wpAny_seqItems hTI rfl ?_)
  show wpAny _ _ (forIn (#[.ref it] : Array Value) _ _ >>= _) _ _ _
  refine wpAny_bind ?_
  simp only [← Array.forIn_toList, List.forIn_cons, List.forIn_nil]
  exact wpAny_bind (wpAny_bind (wpAny_holding (wpAny_nextOf_list_end hh hi hl hx fun h' e hs' he => hE h' e hs' he)))
theorem wpAny_pyNext_map_item {m TI it l : Addr} {k : Nat} {f x : Value} {xs : Array Value} {Q : Option Value → Shared → Prop} (hm : IsMap s.heap m TI f) (hTI : IsOne s.heap TI (.ref it)) (hi : s.heap.IsListIter it l k) (hl : s.heap.IsList l xs) (hx : xs[k]? = some x) (hmi : m ≠ it)
    (hQ : ∀ (A' : Around) (E' : Value → Shared → Prop) h', A'.depth = A.depth → A'.units ≤ A.units + 10 → A'.handled = A.handled → h'.IsListIter it l (k + 1) → Heap.SameBut it s.heap h' → wpAny (model prog w) A' (call f [x]) (fun v s' => Q (some v) s') E' { s with heap := h' }) : wpAny (model prog w) A (pyNext (.ref m)) Q E s := by
  have hT : s.TypeIs (.ref m) "map" := ⟨_, hm, rfl⟩
  unfold pyNext
  exact wpAny_bind (wpAny_attempt (wpAny_callSpecial?_slot (name := Str.ofString "__next__") hT Fx.slot_map_next
    (wpAny_call_entry Fx.slot_map_next hT Fx.entry_map_next
      (map_next_item hm hTI hi hl hx hmi fun h' a1 a2 => wpAny_mono (hQ _ _ h' (by simp) (by simp) (by simp) a1 a2) (fun v s' h => wpAny_pure h) fun _ _ e => e) (Fx.args_map_next _))))
theorem wpAny_pyNext_map_end {m TI it l : Addr} {k : Nat} {f : Value} {xs : Array Value} {Q : Option Value → Shared → Prop} (hh : A.handled = none) (hm : IsMap s.heap m TI f) (hTI : IsOne s.heap TI (.ref it)) (hi : s.heap.IsListIter it l k) (hl : s.heap.IsList l xs) (hx : xs[k]? = none)
    (hQ : ∀ h', Heap.ExtBut it s.heap h' → Q none { s with heap := h' }) : wpAny (model prog w) A (pyNext (.ref m)) Q E s := by
  have hT : s.TypeIs (.ref m) "map" := ⟨_, hm, rfl⟩
  unfold pyNext
  refine wpAny_bind (wpAny_attempt (wpAny_callSpecial?_slot (name := Str.ofString "__next__") hT Fx.slot_map_next
    (wpAny_call_entry Fx.slot_map_next hT Fx.entry_map_next (map_next_end hh hm hTI hi hl hx fun h' e hk he => ?_) (Fx.args_map_next _))))
  obtain ⟨o, ho, hc⟩ := he
  refine wpAny_bind (wpAny_isInstance (T := "StopIteration") (b := true) ⟨o, ho, hc⟩ isSubtype_stop ?_)
  exact wpAny_pure (hQ _ hk)
theorem wpAny_pyIter_map {m TI : Addr} {f : Value} {Q : Value → Shared → Prop} (hm : IsMap s.heap m TI f) (h : Q (.ref m) s) : wpAny (model prog w) A (pyIter (.ref m)) Q E s := by
  have hT : s.TypeIs (.ref m) "map" := ⟨_, hm, rfl⟩
  refine wpAny_pyIter_slot hT Fx.slot_map_iter (wpAny_call_entry Fx.slot_map_iter hT Fx.entry_map_iter ?_ (Fx.args_map_iter _))
  show wpAny _ _ (ret (.ref m)) _ _ s
  exact wpAny_pure ⟨_, rfl, "map", _, hT, Fx.slot_map_next.lookup, h⟩
end
section
variable {prog : Program} {w : World} {A : Around} {E : Value → Shared → Prop} {s : Shared} {R : Result → Shared → Prop}
variable {I : Addr} {fp wr : List Addr} {Gn : Array GenState → Array GenState → Prop} {n : Nat} {P : Nat → Value → Prop} {St : Nat → Shared → Prop}
theorem hint_map {Q : Bool → Shared → Prop} (hT : s.TypeIs (.ref I) "map") (hq : Q true s) : wpAny (model prog w) A (Builtin.List.listLengthHint (.ref I)) Q E s := by
  unfold Builtin.List.listLengthHint
  refine wpAny_bind (wpAny_specialOf hT Fx.map_no_len ?_)
  show wpAny _ A (specialOf (Value.ref I) (Str.ofString "__length_hint__") >>= _) _ _ _
  exact wpAny_bind (wpAny_specialOf hT Fx.map_no_hint (wpAny_pure hq))
theorem fill_map (W : WalksS prog w A.in1 I fp wr Gn n P St) (hT : ∀ i s, St i s → s.TypeIs (.ref I) "map") (S : Addr) (hst : St 0 s) (hSf : S ∉ fp) (hI : I ∈ fp)
    (hS : s.heap.get? S = some { cls := .type "list", data := .seq #[] })
    (hR : ∀ s' acc' c', Moved (S :: wr) Gn s s' → s'.heap.get? S = some { cls := .type "list", dict := none, data := .seq acc' c', slots := #[] } → ItemsOf P acc' n → R (.ok (.ret .none)) s') (hn : n ≤ 100000) :
    wpAny (model prog w) A.in1 (Builtin.«list.__init__» ⟨[.ref S, .ref I], []⟩)
      (fun fin s' => match fin with | .done f => R (.ok f) s' | .again c' => c'.quiet = true ∧ codeAny (model prog w) A c' R s') (fun e s' => R (.error e) s') s := by
  have hSI : S ≠ I := fun e => hSf (e ▸ hI)
  -- the list stays empty: three idle writes
  have keep1 : ∀ (h : Heap) (f : Array Value → Array Value) b o, b ≠ S → h.get? b = some o → (h.update S (Obj.mapSeq f)).get? b = some o := fun h f b o hb e => (Heap.get?_update_other _ _ (Ne.symm hb)).trans e
  have stay : ∀ (h : Heap) tk, s.toks ≤ tk → (∀ b o, b ≠ S → s.heap.get? b = some o → h.get? b = some o) → St 0 { s with heap := h, toks := tk } := fun h tk ht hk => W.frame 0 s h tk hst ht fun b hb o e => hk b o (fun q => hSf (q ▸ hb)) e
  show wpAny _ A.in1 (Builtin.List.listItems (.ref S) >>= fun old => Builtin.List.listUpdate (.ref S) (fun _ => #[]) >>= fun _ => letGo old.toList.reverse >>= fun _ => Builtin.List.listExtendWith (.ref S) (.ref I) .none) _ _ s
  unfold Builtin.List.listItems
  refine wpAny_bind (wpAny_bind (wpAny_seqItems hS rfl (wpAny_pure ?_)))
  refine wpAny_bind (m := updateSeq S (fun _ => #[])) (wpAny_updateSeq hS rfl ?_)
  have e1 := Heap.get?_update_self (Obj.mapSeq (fun _ => (#[] : Array Value))) hS rfl
  refine wpAny_bind (wpAny_letGo ?_)
  unfold Builtin.List.listExtendWith
  have s1 := stay (s.heap.update S (Obj.mapSeq fun _ => #[])) s.toks (Nat.le_refl _) fun b o hb e => keep1 _ _ b o hb e
  refine wpAny_bind (wpAny_typeOf (hT 0 _ s1) ?_)
  rw [if_neg (by simp [Builtin.List.listSameRef, hSI])]
  refine wpAny_bind (W.self 0 _ _ _ s1 ?_)
  refine wpAny_bind (wpAny_holding (hint_map (hT 0 _ s1) ?_))
  rw [if_pos (by simp)]
  refine wpAny_bind (wpAny_rule ?_)
  refine wpAny_bind (m := updateSeq S (·.push .none) >>= fun _ => updateSeq S (·.pop)) ?_
  refine wpAny_bind (wpAny_updateSeq e1 rfl ?_)
  have e2 := Heap.get?_update_self (Obj.mapSeq (·.push Value.none)) e1 rfl
  refine wpAny_updateSeq (hz := by seq_fits) e2 rfl ?_
  have e3 := Heap.get?_update_self (Obj.mapSeq (·.pop)) e2 rfl
  have all : ∀ b o, b ≠ S → s.heap.get? b = some o → (((s.heap.update S (Obj.mapSeq fun _ => #[])).update S (Obj.mapSeq (·.push Value.none))).update S (Obj.mapSeq (·.pop))).get? b = some o :=
    fun b o hb e => keep1 _ _ b o hb (keep1 _ _ b o hb (keep1 _ _ b o hb e))
  refine wpAny_pure ⟨plainId_quiet F.plain_extend_loop _, codeAny_extend_loopS W (by rw [sizeLine_eq]; omega) _ hSf _ n 0 _ _ _ rfl (Nat.zero_le _) (stay _ s.toks (Nat.le_refl _) all) e3 (ItemsOf.nil P) fun s' acc' c' hm hS' hacc => ?_⟩
  exact hR s' acc' c' (Moved.trans W.gtrans ((Moved.refl W.grefl).then_heap (Nat.le_refl _) fun b o hb e => all b o (fun h => hb (h ▸ List.mem_cons_self)) e) hm) hS' hacc
theorem call_list_map {Q : Value → Shared → Prop} (W : WalksS prog w A.in1.in1 I fp wr Gn n P St) (hT : ∀ i s, St i s → s.TypeIs (.ref I) "map") (hst : St 0 s) (hfp : ∀ b ∈ fp, b < s.heap.objs.size) (hI : I ∈ fp)
    (hQ : ∀ s' acc' c', Moved (s.heap.objs.size :: wr) Gn { s with heap := s.heap.push { cls := .type "list", data := .seq #[] } } s' →
      s'.heap.get? s.heap.objs.size = some { cls := .type "list", dict := none, data := .seq acc' c', slots := #[] } → ItemsOf P acc' n → Q (.ref s.heap.objs.size) s') (hn : n ≤ 100000) :
    wpAny (model prog w) A (call (.type "list") [.ref I]) Q E s := by
  have hSf : s.heap.objs.size ∉ fp := fun hm => Nat.lt_irrefl _ (hfp _ hm)
  refine callType_codes (Q₁ := fun obj s₁ => obj = .ref s.heap.objs.size ∧ s₁ = { s with heap := s.heap.push { cls := .type "list", data := .seq #[] } }) F.called_list (F.typeCall_list_1 _) F.entry_list_init
    (code_list_new _ ⟨rfl, rfl⟩) fun obj s₁ h₁ => ?_
  obtain ⟨rfl, rfl⟩ := h₁
  have hS : (s.heap.push { cls := .type "list", data := .seq #[] }).get? s.heap.objs.size = some { cls := .type "list", data := .seq #[] } := Heap.get?_push_size _ rfl
  refine ⟨⟨_, hS, rfl⟩, F.args_list_init_2 _ _, fill_map W hT _ (W.frame 0 s _ s.toks hst (Nat.le_refl _) fun b _ o e => Heap.get?_push_of_some _ e) hSf hI hS (fun s' acc' c' hm hS' hacc => ?_) hn⟩
  exact ⟨rfl, hQ s' acc' c' hm hS' hacc⟩
end
section
variable {G : Gl} {p : Addr}
noncomputable def live0 (G : Gl) : List Addr := (List.range G.g₀.objs.size).filter fun b => (G.g₀.get? b).isSome
theorem live0_mem {G : Gl} {b : Addr} {o : Obj} (h : G.g₀.get? b = some o) : b ∈ live0 G := by
  unfold live0
  rw [List.mem_filter, h]
  exact ⟨List.mem_range.mpr (Heap.lt_size h), rfl⟩
theorem live0_get {G : Gl} {b : Addr} (h : b ∈ live0 G) : ∃ o, G.g₀.get? b = some o := by
  unfold live0 at h
  exact Option.isSome_iff_exists.mp (List.mem_filter.mp h).2
structure MapSt (G : Gl) (m TI it l : Addr) (f : Value) (items : List Value) (i : Nat) (s : Shared) : Prop where
  mp : IsMap s.heap m TI f
  one : IsOne s.heap TI (.ref it)
  li : s.heap.IsListIter it l i
  ls : s.heap.IsList l items.toArray
  keep : ∀ b o, G.g₀.get? b = some o → s.heap.get? b = some o
  toks : G.t0 ≤ s.toks
  tab : G.TabOk (fun b => b = G.tab) s.heap
theorem map_walks (T : TwinG G p) {n : Nat} {A : Around} {m TI it l fe : Addr} {items : List Value} {ys : List Str} {g : Str → Str} (rm : A.depth + n < 900 ∧ A.units + 10 + 20 * n < 9000 ∧ A.handled = none) (hr : Reps (ys.map .str) items)
    (hc : ∀ x ∈ ys, CallV G n false (.ref fe) [.str x] (.str (g x))) (h1 : m ≠ it) (h2 : TI ≠ it) (h3 : l ≠ it) (h4 : G.tab ≠ it) (h5 : G.g₀.get? it = none) :
    WalksS G.prog G.w A m (m :: TI :: it :: l :: G.tab :: live0 G) [it] (fun a b => b = a) ys.length (fun i v => ∃ x, ys[i]? = some x ∧ ∃ t, v = .str (g x) t) (fun i s => MapSt G m TI it l (.ref fe) items i s) where
  sub := fun b hb => by rw [List.mem_singleton.mp hb]; simp
  grefl := fun _ => rfl
  gtrans := fun _ _ _ h1 h2 => h2.trans h1
  frame := fun i s h' tk st ht hk => by
    obtain ⟨ps, hP, hok⟩ := T.tabOk st.tab
    exact ⟨hk m (by simp) _ st.mp, hk TI (by simp) _ st.one, st.li.at fun o e => hk it (by simp) o e, IsList.mono st.ls fun o e => hk l (by simp) o e,
      fun b o e => hk b (by simp [live0_mem e]) o (st.keep b o e), Nat.le_trans st.toks ht, T.tabMk (hk G.tab (by simp) _ hP) hok⟩
  item := fun i s Q E hi st hQ => by
    have hil : i < items.length := by
      have := hr.length
      rw [List.length_map] at this
      omega
    have hx : items.toArray[i]? = some items[i] := by simp [List.getElem?_eq_getElem hil]
    obtain ⟨v, e1, e2⟩ := hr.getV (i := i) (List.getElem?_eq_getElem hil)
    rw [List.getElem?_map, List.getElem?_eq_getElem hi] at e1
    have e1' : V.str ys[i] = v := by simpa using e1
    subst e1'
    obtain ⟨t, e2⟩ := e2
    refine wpAny_pyNext_map_item st.mp st.one st.li st.ls hx h1 fun A' E' h' a1 a2 a3 a4 a5 => ?_
    have kk : ∀ b o, b ≠ it → s.heap.get? b = some o → h'.get? b = some o := fun b o hb e => a5.extBut b o hb e
    obtain ⟨ps, hP, hok⟩ := T.tabOk st.tab
    have keep' : ∀ b o, G.g₀.get? b = some o → h'.get? b = some o := fun b o e => kk b o (fun q => by rw [q, h5] at e; cases e) (st.keep b o e)
    have tab' : h'.get? G.tab = some (tabObj ps) := kk _ _ h4 hP
    have ar : Around0 G (fun b => b = G.tab) { s with heap := h' } := ⟨keep', st.toks, T.tabMk tab' hok, fun b hb => ⟨_, hb ▸ tab'⟩, rfl⟩
    have hcall := hc ys[i] (List.getElem_mem hi) A' (fun b => b = G.tab) { s with heap := h' } [items[i]] E' ⟨by omega, by omega, by rw [a3]; exact rm.2.2⟩ ar ⟨⟨t, e2⟩, trivial⟩
    refine wpAny_mono (wpAny_toks hcall) (fun val s' h => ?_) fun _ _ e => e.2
    obtain ⟨b1, ⟨t', b2⟩, ⟨h'', tk, rfl, b3⟩, b4⟩ := h
    have b3' : ∀ b o, h'.get? b = some o → h''.get? b = some o := fun b o e => b3 b o (fun h => nomatch h) e
    refine hQ val _ ⟨ys[i], List.getElem?_eq_getElem hi, t', b2⟩ ⟨b3' _ _ (kk _ _ h1 st.mp), b3' _ _ (kk _ _ h2 st.one), a4.at fun o e => b3' it o e, IsList.mono st.ls fun o e => b3' _ _ (kk _ _ h3 e),
      fun b o e => b3' b o (keep' b o e), Nat.le_trans st.toks b1, b4⟩ ⟨fun b o hb e => b3' b o (kk b o (fun q => hb (by simp [q])) e), rfl, rfl, rfl, b1⟩
  done := fun s Q E st hQ => by
    have hx : items.toArray[ys.length]? = none := by
      have := hr.length
      rw [List.length_map] at this
      simp; omega
    exact wpAny_pyNext_map_end rm.2.2 st.mp st.one st.li st.ls hx fun h' hk => hQ _ ⟨fun b o hb e => hk b o (fun q => hb (by simp [q])) e, rfl, rfl, rfl, Nat.le_refl _⟩
  self := fun i s Q E st hQ => wpAny_pyIter_map st.mp hQ
theorem reps_of_items {g : Str → Str} : ∀ {ys : List Str} {vs : List Value}, vs.length = ys.length → (∀ (i : Nat) v, vs[i]? = some v → ∃ x, ys[i]? = some x ∧ ∃ t, v = .str (g x) t) → Reps ((ys.map g).map V.str) vs
  | [], [], _, _ => trivial
  | [], _ :: _, h, _ => by cases h
  | _ :: _, [], h, _ => by cases h
  | y :: ys, v :: vs, h, hi => by
    obtain ⟨x, e1, t, e2⟩ := hi 0 v rfl
    have e1' : y = x := by simpa using e1
    exact ⟨⟨t, e1' ▸ e2⟩, reps_of_items (by simpa using h) fun i v' hv => hi (i + 1) v' (by simpa using hv)⟩
end
section
variable {G : Gl} {n : Nat} {F : Scope} {t : Bool} {σ : List V} {p : Addr}
theorem f_list_map {e : Expr} {fn : Str} {p1 p2 p3 q1 q2 : Pos} {ys : List Str} {g : Str → Str} (T : TwinG G p) (hl : F.names.lookup ("list" : Str) = some .globalImplicit) (hm : F.names.lookup ("map" : Str) = some .globalImplicit) (gl : G.mg "list" = none) (gm : G.mg "map" = none)
    (hf : F.names.lookup fn = some .globalImplicit) (hdf : (fn == ("__debug__" : Str)) = false)
    (hx1 : ∀ as, eval (.Call (.Name "list" p1) as [] q1) = fun env => (do callWith q1 (← eval (.Name "list" p1) env) [] (backTo q1 (starEach as env)) (backToKw q1 (keywordEach [] env))))
    (hx2 : ∀ as, eval (.Call (.Name "map" p2) as [] q2) = fun env => (do callWith q2 (← eval (.Name "map" p2) env) [] (backTo q2 (starEach as env)) (backToKw q2 (keywordEach [] env))))
    (hs1 : ∀ x env, backTo q1 (starEach [.Call (.Name "map" p2) x [] q2] env) = [(false, eval (.Call (.Name "map" p2) x [] q2) env)])
    (hs2 : ∀ env, backTo q2 (starEach [.Name fn p3, e] env) = [(false, eval (.Name fn p3) env), (false, eval e env)])
    (he : EP G (n + 1) F t e σ (.list (ys.map .str))) (hc : ∀ x ∈ ys, CallN G n false fn [.str x] (.str (g x))) (hne : ys ≠ []) (hz : ys.length ≤ 100000) :
    EF G (n + 1) F t (.Call (.Name "list" p1) [.Call (.Name "map" p2) [.Name fn p3, e] [] q2] [] q1) σ ((ys.map g).map .str) := fun D ow s E O R => by
  obtain ⟨y0, hy0⟩ : ∃ y, y ∈ ys := by
    cases ys with
    | nil => exact absurd rfl hne
    | cons y _ => exact ⟨y, List.mem_cons_self⟩
  obtain ⟨fe, ofe, fd, g1, g2, g3, _⟩ := hc y0 hy0
  have hcv : ∀ x ∈ ys, CallV G n false (.ref fe) [.str x] (.str (g x)) := fun x hx => by
    obtain ⟨fe', _, _, g1', _, _, g4⟩ := hc x hx
    rw [g1] at g1'; cases g1'; exact g4
  rw [hx1]
  refine wpAny_bind ((e_builtin hl gl bb_list nn_list d_list (t := t)).go O R fun f s1 rf K1 R1 => ?_)
  have rf' : f = .type "list" := rf
  subst rf'
  refine PySem.callWith_type (by rw [hs1]; rfl) (wp_evalArgs (by rw [hs1]; rfl) ?_)
  rw [hs1]
  refine spliced_cons ?_
  rw [hx2]
  refine wpAny_bind ((e_builtin hm gm bb_map nn_map d_map (t := t)).go O R1 fun f s2 rf K2 R2 => ?_)
  have rf' : f = .type "map" := rf
  subst rf'
  refine PySem.callWith_type (by rw [hs2]; rfl) (wp_evalArgs (by rw [hs2]; rfl) ?_)
  rw [hs2]
  refine spliced_cons ((e_global hf g1 hdf (t := t)).go O R2 fun fv s3 rf K3 R3 => ?_)
  have rf' : fv = .ref fe := rf
  subst rf'
  refine spliced_cons (he.go O R3 fun lv s4 rl K4 R4 => spliced_nil ?_)
  obtain ⟨l, items, rfl, nb, hpl, hr⟩ := rl
  have hil := hpl.isList
  refine call_map hil fun h' m1 m2 m3 m4 m5 => spliced_nil ?_
  have dead : ∀ b, s4.heap.objs.size ≤ b → s4.heap.get? b = none := fun b hb => by
    cases e : s4.heap.get? b with
    | none => rfl
    | some o => exact absurd (Heap.lt_size e) (Nat.not_lt.mpr hb)
  obtain ⟨ps, hP, hok⟩ := T.tabOk R4.tab
  have hit : s4.heap.get? s4.heap.objs.size = none := dead _ (Nat.le_refl _)
  have ne_it : ∀ b o, s4.heap.get? b = some o → b ≠ s4.heap.objs.size := fun b o e q => by rw [q, hit] at e; cases e
  have hg0 : G.g₀.get? s4.heap.objs.size = none := by
    cases e : G.g₀.get? s4.heap.objs.size with
    | none => rfl
    | some o => have := R4.keep _ _ e; rw [hit] at this; cases this
  obtain ⟨lc, hlo⟩ := id hpl
  have W := map_walks (A := D.A.in1.in1) (m := s4.heap.objs.size + 2) (TI := s4.heap.objs.size + 1) (it := s4.heap.objs.size) (l := l) (fe := fe) (items := items) (ys := ys) (g := g) T
    ⟨by have := O.room.1; simp; omega, by have := O.room.2.1; simp; omega, by simpa using O.room.2.2⟩ hr hcv (show (s4.heap.objs.size + 2 : Nat) ≠ s4.heap.objs.size by omega) (show (s4.heap.objs.size + 1 : Nat) ≠ s4.heap.objs.size by omega) (ne_it l _ hlo) (ne_it _ _ hP) hg0
  refine call_list_map W (fun i s st => ⟨_, st.mp, rfl⟩) ⟨m1, m2, m3, IsList.mono hil fun o e => m5 _ _ e, fun b o e => m5 _ _ (R4.keep b o e), R4.toks, T.tabMk (m5 _ _ hP) hok⟩ (fun b hb => ?_) (by simp) (fun s' acc' c' mv hS items' => ?_) hz
  · have lt' : ∀ b o, s4.heap.get? b = some o → b < h'.objs.size := fun b o e => Heap.lt_size (m5 b o e)
    simp only [List.mem_cons] at hb
    rcases hb with rfl | rfl | rfl | rfl | rfl | hb
    · show (s4.heap.objs.size + 2 : Nat) < h'.objs.size
      omega
    · show (s4.heap.objs.size + 1 : Nat) < h'.objs.size
      omega
    · show (s4.heap.objs.size : Nat) < h'.objs.size
      omega
    · exact lt' _ _ hlo
    · exact lt' _ _ hP
    · obtain ⟨o, e⟩ := live0_get hb
      exact lt' _ _ (R4.keep _ _ e)
  · have keepS : ∀ b o, s4.heap.get? b = some o → s'.heap.get? b = some o := fun b o e => mv.heap b o (fun hb => by
      rcases List.mem_cons.mp hb with h | h
      · have hlt := Heap.lt_size e
        have hb' : b = h'.objs.size := h
        rw [hb', m4] at hlt
        exact absurd hlt (Nat.not_lt.mpr (Nat.le_add_right _ 3))
      · exact ne_it b o e (List.mem_singleton.mp h)) (Heap.get?_push_of_some _ (m5 b o e))
    have Kall : Kt G t s s4 := K1.trans (K2.trans (K3.trans K4))
    have Klast : Kt G t s4 s' := ⟨s'.heap, s'.toks, by
      have h1 := mv.gens; have h2 := mv.drawn; have h3 := mv.os
      obtain ⟨a1, a2, a3, a4, a5⟩ := s'
      simp only at h1 h2 h3
      subst h1; subst h2; subst h3; rfl, fun b o _ e => keepS b o e⟩
    refine ⟨⟨h'.objs.size, acc'.toList, rfl, ?_, ⟨c', by rw [Array.toArray_toList]; exact hS⟩, reps_of_items ?_ fun i v hv => ?_⟩, Kall.trans Klast, Gl.tabKt R4.tab keepS⟩
    · cases e : s.heap.get? h'.objs.size with
      | none => rfl
      | some o =>
        by_cases hq : h'.objs.size = G.tab
        · have hlt : (G.tab : Nat) < h'.objs.size := Heap.lt_size (m5 _ _ hP)
          exact (Nat.ne_of_lt hlt hq.symm).elim
        · have e4 := Kall.at hq e
          have hlt : (h'.objs.size : Nat) < h'.objs.size := Heap.lt_size (m5 _ _ e4)
          omega
    · rw [Array.length_toList]; exact items'.1
    · exact items'.2 i v (by simpa using hv)
end
/-! a text cut at a sign -/
noncomputable def splitL (c : Nat) : List Nat → List (List Nat)
  | [] => [[]]
  | x :: r => if x = c then [] :: splitL c r else match splitL c r with
    | [] => [[x]]
    | s :: t => (x :: s) :: t
theorem splitL_ne (c : Nat) : ∀ l, splitL c l ≠ []
  | [] => by simp [splitL]
  | x :: r => by
    unfold splitL
    split
    · simp
    · split <;> simp
theorem splitL_jl (c : Nat) : ∀ l, jl [c] (splitL c l) = l
  | [] => rfl
  | x :: r => by
    have ih := splitL_jl c r
    have hne := splitL_ne c r
    unfold splitL
    split
    · rename_i h
      rw [jl_cons hne, ih, h]; rfl
    · split
      · rename_i h; exact absurd h hne
      · rename_i s t h
        rw [h] at ih
        cases t with
        | nil => show x :: s = _; rw [show s = r from ih]
        | cons u t => show (x :: s) ++ [c] ++ jl [c] (u :: t) = _; rw [← ih]; rfl
theorem splitL_free (c : Nat) : ∀ l, ∀ s ∈ splitL c l, c ∉ s
  | [], s, hs => by
    have : s = [] := by simpa [splitL] using hs
    rw [this]; simp
  | x :: r, s, hs => by
    have ih := splitL_free c r
    unfold splitL at hs
    split at hs
    · rcases List.mem_cons.mp hs with rfl | hs
      · simp
      · exact ih s hs
    · rename_i hx
      split at hs
      · rw [List.mem_singleton.mp hs]
        simp; exact fun h => hx h.symm
      · rename_i u t h
        rcases List.mem_cons.mp hs with rfl | hs
        · intro hm
          rcases List.mem_cons.mp hm with rfl | hm
          · exact hx rfl
          · exact ih u (by rw [h]; exact List.mem_cons_self) hm
        · exact ih s (by rw [h]; exact List.mem_cons_of_mem _ hs)
theorem jl_mem {sep : List Nat} : ∀ {ls : List (List Nat)} {s : List Nat} {x : Nat}, s ∈ ls → x ∈ s → x ∈ jl sep ls
  | [y], s, x, hs, hx => by rw [List.mem_singleton.mp hs] at hx; exact hx
  | y :: z :: r, s, x, hs, hx => by
    show x ∈ y ++ sep ++ jl sep (z :: r)
    rcases List.mem_cons.mp hs with rfl | hs
    · simp [hx]
    · have := jl_mem (sep := sep) hs hx
      simp [this]
theorem splitL_sub (c : Nat) {l s : List Nat} {x : Nat} (hs : s ∈ splitL c l) (hx : x ∈ s) : x ∈ l := by
  rw [← splitL_jl c l]; exact jl_mem hs hx
theorem split_star (l : List Nat) : Txt.split (S l) (S [42]) = (splitL 42 l).map S := by
  conv => lhs; rw [← splitL_jl 42 l]
  exact split_S 42 (splitL_ne 42 l) (splitL_free 42 l)
theorem splitL_one {c : Nat} : ∀ {l : List Nat}, c ∉ l → splitL c l = [l]
  | [], _ => rfl
  | x :: r, h => by
    have ih := splitL_one (c := c) (l := r) fun q => h (List.mem_cons_of_mem _ q)
    have hne : ¬ x = c := fun q => h (by rw [q]; exact List.mem_cons_self)
    unfold splitL
    rw [if_neg hne, ih]
theorem splitL_many {c : Nat} {l : List Nat} (h : c ∈ l) : ∃ r0 mid rl, splitL c l = r0 :: (mid ++ [rl]) := by
  cases hs : splitL c l with
  | nil => exact absurd hs (splitL_ne c l)
  | cons r0 t =>
    cases t with
    | nil =>
      have h1 := splitL_jl c l
      have h2 := splitL_free c l r0 (by rw [hs]; exact List.mem_cons_self)
      rw [hs] at h1
      rw [← show r0 = l from h1] at h
      exact absurd h h2
    | cons u t =>
      refine ⟨r0, (u :: t).dropLast, (u :: t).getLast (by simp), ?_⟩
      rw [List.dropLast_concat_getLast]
/-- the parts of a pattern that has a star: the first, those between, the last -/
structure Cut (pat r0 : List Nat) (mid : List (List Nat)) (rl : List Nat) : Prop where
  eq : pat = r0 ++ (mid ++ [rl]).flatMap (fun s => 42 :: s)
  f0 : 42 ∉ r0
  fm : ∀ s ∈ mid, 42 ∉ s
  fl : 42 ∉ rl
theorem jl_flat (c : Nat) : ∀ (r0 : List Nat) (ls : List (List Nat)), jl [c] (r0 :: ls) = r0 ++ ls.flatMap (fun s => c :: s)
  | r0, [] => by simp [jl]
  | r0, u :: t => by
    show r0 ++ [c] ++ jl [c] (u :: t) = _
    rw [jl_flat c u t]; simp
theorem cut_of {pat : List Nat} (h : 42 ∈ pat) : ∃ r0 mid rl, splitL 42 pat = r0 :: (mid ++ [rl]) ∧ Cut pat r0 mid rl := by
  obtain ⟨r0, mid, rl, hs⟩ := splitL_many h
  refine ⟨r0, mid, rl, hs, ?_, ?_, ?_, ?_⟩
  · rw [← jl_flat, ← hs, splitL_jl]
  · exact splitL_free 42 pat r0 (by rw [hs]; simp)
  · intro s h; exact splitL_free 42 pat s (by rw [hs]; simp [h])
  · exact splitL_free 42 pat rl (by rw [hs]; simp)
theorem Cut.sub {pat r0 : List Nat} {mid : List (List Nat)} {rl : List Nat} (C : Cut pat r0 mid rl) : (∀ x ∈ r0, x ∈ pat) ∧ (∀ s ∈ mid, ∀ x ∈ s, x ∈ pat) ∧ ∀ x ∈ rl, x ∈ pat := by
  refine ⟨fun x h => ?_, fun s hs x h => ?_, fun x h => ?_⟩ <;> rw [C.eq]
  · simp [h]
  · refine List.mem_append_right _ (List.mem_flatMap.mpr ⟨s, by simp [hs], by simp [h]⟩)
  · refine List.mem_append_right _ (List.mem_flatMap.mpr ⟨rl, by simp, by simp [h]⟩)

/-! what is written of a pattern -/
noncomputable def grp (e : Nat → List Nat) (s : List Nat) : List Nat := [40, 63, 62, 46, 42, 63] ++ s.flatMap e ++ [41]
noncomputable def ruleL (e : Nat → List Nat) (r0 : List Nat) (mid : List (List Nat)) (rl : List Nat) : List Nat := r0.flatMap e ++ mid.flatMap (grp e) ++ [46, 42] ++ rl.flatMap e
theorem flat_len {e : Nat → List Nat} {b : Nat} (he : ∀ c, (e c).length ≤ b) : ∀ s : List Nat, (s.flatMap e).length ≤ b * s.length
  | [] => by simp
  | c :: s => by
    have := flat_len he s
    have := he c
    rw [List.flatMap_cons, List.length_append, List.length_cons, Nat.mul_add]
    omega
theorem rule_len {e : Nat → List Nat} (he : ∀ c, (e c).length ≤ 4) {pat r0 : List Nat} {mid : List (List Nat)} {rl : List Nat} (C : Cut pat r0 mid rl) : (ruleL e r0 mid rl).length ≤ 7 * pat.length := by
  have h1 := flat_len he r0
  have h2 := flat_len he rl
  have h3 : ∀ mid : List (List Nat), (mid.flatMap (grp e)).length ≤ 7 * (mid.flatMap (fun s => 42 :: s)).length := by
    intro mid
    induction mid with
    | nil => simp
    | cons s m ih =>
      have := flat_len he s
      simp only [List.flatMap_cons, List.length_append, grp, List.length_cons, List.length_nil] at ih ⊢
      omega
  have h3' := h3 mid
  rw [C.eq]
  simp only [ruleL, List.length_append, List.flatMap_append, List.flatMap_cons, List.flatMap_nil, List.length_cons, List.length_nil, List.append_nil]
  omega

/-! the replacement of a pair that begins with a backslash -/
noncomputable def rep2 (q : Nat) (z : List Nat) : List Nat → List Nat
  | [] => []
  | [x] => [x]
  | x :: y :: r => if x = 92 ∧ y = q then z ++ rep2 q z r else x :: rep2 q z (y :: r)
theorem rep2_cons (q : Nat) (z : List Nat) (x y : Nat) (r : List Nat) : rep2 q z (x :: y :: r) = if x = 92 ∧ y = q then z ++ rep2 q z r else x :: rep2 q z (y :: r) := by rw [rep2]
theorem rep2_none {q : Nat} {z : List Nat} : ∀ {l : List Nat}, (∀ k, ¬ ((l.drop k).take 2 = [92, q])) → rep2 q z l = l
  | [], _ => rfl
  | [x], _ => rfl
  | x :: y :: r, h => by
    have h0 := h 0
    have ih := rep2_none (z := z) (l := y :: r) fun k => by have := h (k + 1); simpa using this
    rw [rep2_cons, if_neg (fun e => h0 (by simp [e.1, e.2])), ih]
theorem rep2_hit {q : Nat} {z v : List Nat} (hq : q ≠ 92) : ∀ {u : List Nat}, (∀ k, k < u.length → ¬ (((u ++ 92 :: q :: v).drop k).take 2 = [92, q])) → rep2 q z (u ++ 92 :: q :: v) = u ++ z ++ rep2 q z v
  | [], _ => by
    show rep2 q z (92 :: q :: v) = _
    rw [rep2_cons, if_pos ⟨rfl, rfl⟩]; rfl
  | [x], h => by
    have h0 := h 0 (by simp)
    have ih := rep2_hit (z := z) (v := v) hq (u := []) (fun k hk => by simp at hk)
    show rep2 q z (x :: 92 :: q :: v) = _
    rw [rep2_cons, if_neg (fun e => hq e.2.symm)]
    rw [show rep2 q z (92 :: q :: v) = z ++ rep2 q z v from ih]; rfl
  | x :: y :: r, h => by
    have h0 := h 0 (by simp)
    have ih := rep2_hit (z := z) (v := v) hq (u := y :: r) (fun k hk => by have := h (k + 1) (by simp at hk ⊢; omega); simpa using this)
    show rep2 q z (x :: y :: (r ++ 92 :: q :: v)) = _
    rw [rep2_cons, if_neg (fun e => h0 (by simp [e.1, e.2]))]
    rw [show rep2 q z (y :: (r ++ 92 :: q :: v)) = (y :: r) ++ z ++ rep2 q z v from ih]; rfl
theorem at_two (x : Str) (q i : Nat) : StrLaws.At x (S [92, q]) x.length i ↔ (x.cps.toList.drop i).take 2 = [92, q] := by
  unfold StrLaws.At
  rw [StrLaws.subAt_eq, S_list, S_len, beq_iff_eq]
  show i + 2 ≤ x.length ∧ (x.cps.toList.drop i).take 2 = [92, q] ↔ _
  constructor
  · exact fun h => h.2
  · intro h
    refine ⟨?_, h⟩
    have := congrArg List.length h
    rw [List.length_take, List.length_drop] at this
    have hl : x.cps.toList.length = x.length := by simp [Str.length]
    rw [hl] at this
    have h2 : ([92, q] : List Nat).length = 2 := rfl
    omega
theorem parts_rep (x z : Str) (q : Nat) (hq : q ≠ 92) : ∀ (cuts : List Nat) (a f : Nat), StrLaws.ChainG x (S [92, q]) x.length a cuts f → (∀ k, f ≤ k → ¬ StrLaws.At x (S [92, q]) x.length k) →
    (Str.join z (StrLaws.partsFrom x 2 a cuts)).cps.toList = rep2 q z.cps.toList (x.cps.toList.drop a)
  | [], a, f, h, hn => by
    have e : f = a := h
    subst e
    show (Builtin.Str.strSub x f x.length).cps.toList = _
    have hl : x.cps.toList.length = x.length := by simp [Str.length]
    rw [StrLaws.strSub_toList, List.take_of_length_le (by rw [List.length_drop, hl]; omega), rep2_none]
    intro k
    rw [List.drop_drop]
    exact fun e => hn (f + k) (by omega) ((at_two x q _).mpr e)
  | c :: r, a, f, h, hn => by
    obtain ⟨h1, h2, h3, h4⟩ := h
    have h4' : StrLaws.ChainG x (S [92, q]) x.length (c + 2) r f := h4
    have ih := parts_rep x z q hq r (c + 2) f h4' hn
    obtain ⟨p, t, e⟩ := StrLaws.partsFrom_ne x 2 (c + 2) r
    show (Str.join z (Builtin.Str.strSub x a c :: StrLaws.partsFrom x 2 (c + 2) r)).cps.toList = _
    rw [e] at ih ⊢
    show (Builtin.Str.strSub x a c ++ z ++ Str.join z (p :: t)).cps.toList = _
    rw [Str.cps_append, Str.cps_append, Array.toList_append, Array.toList_append, ih, StrLaws.strSub_toList]
    have hat := (at_two x q c).mp h2
    have hd : x.cps.toList.drop c = 92 :: q :: x.cps.toList.drop (c + 2) := by
      rw [← List.take_append_drop 2 (x.cps.toList.drop c), hat, List.drop_drop]; rfl
    have hcut : x.cps.toList.drop a = (x.cps.toList.drop a).take (c - a) ++ 92 :: q :: x.cps.toList.drop (c + 2) := by
      rw [← hd]
      conv => lhs; rw [← List.take_append_drop (c - a) (x.cps.toList.drop a)]
      rw [List.drop_drop]
      congr 2; omega
    conv => rhs; rw [hcut]
    rw [rep2_hit hq]
    intro k hk
    rw [← hcut, List.drop_drop]
    rw [List.length_take, List.length_drop] at hk
    exact fun e => h3 (a + k) (by omega) (by omega) ((at_two x q _).mpr e)
theorem replace_two (l z : List Nat) (q : Nat) (hq : q ≠ 92) : Txt.replace (S l) (S [92, q]) (S z) = S (rep2 q z l) := by
  obtain ⟨f, h1, h2⟩ := StrLaws.occ_tight (S l) (S [92, q]) (by rw [S_len]; simp)
  have key := parts_rep (S l) (S z) q hq _ 0 f h1 h2
  rw [S_list, S_list, List.drop_zero] at key
  apply Str.ext'
  apply Array.toList_inj.mp
  rw [S_list, ← key]
  congr 1; congr 1
  unfold Txt.replace
  split
  · rename_i h
    rcases Bool.or_eq_true_iff.mp h with h | h
    · rw [List.isEmpty_iff.mp h]
      show S l = Builtin.Str.strSub (S l) 0 (S l).length
      rw [StrLaws.sub_whole]
    · have : ((S [92, q]).length == 0) = true := (Bool.and_eq_true_iff.mp h).1
      rw [S_len] at this; cases this
  · rw [StrLaws.glued_eq_join, StrLaws.partsBetween_eq]; rfl
section
variable {G : Gl} {n : Nat} {t : Bool} {p d : Addr} {f : Int → Option Value}
theorem int6 : ∀ env : Env, env.scope = sc6 → interactive env = false := fun _ h => by unfold interactive; rw [h]; rfl
noncomputable def wrapL (s : List Nat) : List Nat := [40, 63, 62, 46, 42, 63] ++ s ++ [41]
theorem e_wrap {F : Scope} {σ : List V} {s : List Nat} {e : Expr} {k1 k2 : Nat} {p1 p2 p3 p4 : Pos} (he : EP G n F t e σ (.str (S s))) (hs : s.length ≤ 100000) :
    EP G n F t (.JoinedStr [.Constant (.str "(?>.*?") k1 p1, .FormattedValue e (-1) none p2, .Constant (.str ")") k2 p3] p4) σ (.str (S (wrapL s))) := by
  have ee : (Str.empty).length = 0 := rfl
  have e6 : ("(?>.*?" : Str).length = 6 := by decide +kernel
  have e7 : (")" : Str).length = 1 := by decide +kernel
  have h1 : ("(?>.*?" : Str) = S [40, 63, 62, 46, 42, 63] := by decide +kernel
  have h2 : (")" : Str) = S [41] := by decide +kernel
  have hl : (S s).length = s.length := S_len s
  refine e_is (e_joined (out := Str.empty ++ "(?>.*?" ++ S s ++ ")") (jp_cons e_str ?_ (jp_cons (e_fv he ?_) ?_ (jp_cons e_str ?_ jp_nil))) ?_) ?_
  · rw [ee, e6]; omega
  · omega
  · rw [Str.length_append, ee, e6]; omega
  · rw [Str.length_append, Str.length_append, ee, e6, e7]; omega
  · rw [Str.length_append, Str.length_append, Str.length_append, ee, e6, e7]; omega
  · rw [Str.empty_append, h1, h2, S_app, S_app]; rfl
theorem e_last2 {F : Scope} {σ : List V} {s : List Nat} {e : Expr} {k1 : Nat} {p1 p2 p4 : Pos} (he : EP G n F t e σ (.str (S s))) (hs : s.length ≤ 100000) :
    EP G n F t (.JoinedStr [.Constant (.str ".*") k1 p1, .FormattedValue e (-1) none p2] p4) σ (.str (S ([46, 42] ++ s))) := by
  have ee : (Str.empty).length = 0 := rfl
  have e6 : (".*" : Str).length = 2 := by decide +kernel
  have h1 : (".*" : Str) = S [46, 42] := by decide +kernel
  have hl : (S s).length = s.length := S_len s
  refine e_is (e_joined (out := Str.empty ++ ".*" ++ S s) (jp_cons e_str ?_ (jp_cons (e_fv he ?_) ?_ jp_nil)) ?_) ?_
  · rw [ee, e6]; omega
  · omega
  · rw [Str.length_append, ee, e6]; omega
  · rw [Str.length_append, Str.length_append, ee, e6]; omega
  · rw [Str.empty_append, h1, S_app]
/-- the parts as the loop turns them -/
noncomputable def tparts (a : List Nat) (mid : List (List Nat)) (b : List Nat) (i : Nat) : List (List Nat) := a :: ((mid.take i).map wrapL ++ (mid.drop i ++ [b]))
theorem tparts_len (a : List Nat) (mid : List (List Nat)) (b : List Nat) (i : Nat) : (tparts a mid b i).length = mid.length + 2 := by
  unfold tparts
  rw [List.length_cons, List.length_append, List.length_append, List.length_map, List.length_take, List.length_drop, List.length_singleton]
  omega
theorem tparts_get {a : List Nat} {mid : List (List Nat)} {b : List Nat} {i : Nat} {s : List Nat} (h : mid[i]? = some s) : (tparts a mid b i)[1 + i]? = some s := by
  have hlt : i < mid.length := (List.getElem?_eq_some_iff.mp h).1
  unfold tparts
  rw [Nat.add_comm, List.getElem?_cons_succ, List.getElem?_append_right (by rw [List.length_map, List.length_take]; omega), List.length_map, List.length_take, Nat.min_eq_left (by omega), Nat.sub_self, List.drop_eq_getElem_cons hlt]
  rw [List.getElem?_eq_getElem hlt] at h
  rw [Option.some.inj h]; rfl
theorem tparts_set {a : List Nat} {mid : List (List Nat)} {b : List Nat} {i : Nat} {s : List Nat} (h : mid[i]? = some s) : (tparts a mid b i).set (1 + i) (wrapL s) = tparts a mid b (i + 1) := by
  have hlt : i < mid.length := (List.getElem?_eq_some_iff.mp h).1
  unfold tparts
  rw [Nat.add_comm, List.set_cons_succ, List.set_append_right _ _ (by rw [List.length_map, List.length_take]; omega), List.length_map, List.length_take, Nat.min_eq_left (by omega), Nat.sub_self, List.drop_eq_getElem_cons hlt, List.take_add_one, h]
  rw [List.getElem?_eq_getElem hlt] at h
  rw [Option.some.inj h]
  simp
noncomputable def tail6 (ps : List (List Nat)) : List Str := ps.map S
/-- what comes behind the loop -/
theorem tp_end {l : List Nat} {b : List Nat} {ps : List (List Nat)} {w : V} (hb : b.length ≤ 100000) (hps : ps.length ≤ 100000) (hsum : ((ps ++ [[46, 42] ++ b]).flatten).length ≤ 1000000) :
    EX G (n + 2) sc6 t (bd6.drop 2) [.str (S l), .own (((ps ++ [b]).map S).map .str), w] (retOf (.str (S (ps ++ [[46, 42] ++ b]).flatten))) := by
  have hl : (((ps ++ [b]).map S).map V.str).length = ps.length + 1 := by simp
  refine x_cons (x_setitem (v := .str (S ([46, 42] ++ b))) (i := -1) (j := ps.length) i6_parts rfl rfl d_parts (e_last2 (e_item_neg (i := -1) (fun _ _ => ⟨_, rfl⟩) (e_own i6_parts rfl rfl d_parts) (e_is (e_neg e_int) rfl) (by decide) ?_ (by decide) ?_) hb) rfl (e_is (e_neg e_int) rfl) (.inr ⟨by decide, ?_, ?_⟩) ?_ (by decide) (fun _ _ => rfl) ?_)
  · rw [hl]; omega
  · rw [hl, show ((-1 : Int) + ((ps.length + 1 : Nat) : Int)).toNat = ps.length by omega]
    simp
  · rw [hl]; omega
  · rw [hl]; omega
  · rw [hl]; omega
  have e : (((ps ++ [b]).map S).map V.str).set ps.length (.str (S ([46, 42] ++ b))) = ((ps ++ [[46, 42] ++ b]).map S).map .str := by simp
  dsimp only [List.set_cons_zero, List.set_cons_succ]
  rw [e]
  refine x_cons (x_return (e_is (e_methc PySem.F.slot_str_join ty_join (fun _ _ => rfl) (fun _ => rfl) rfl (fun _ _ => rfl) e_str (sp_one (fun _ => rfl) (e_own i6_parts rfl rfl d_parts)) (c_join ?_)) ?_) rfl rfl)
  · have e0 : ("" : Str).length = 0 := by decide +kernel
    rw [e0, Nat.mul_zero, Nat.add_zero]
    have : ∀ ls : List (List Nat), ((ls.map S).map (·.length)).sum = ls.flatten.length := by
      intro ls
      induction ls with
      | nil => rfl
      | cons x r ih => rw [List.map_cons, List.map_cons, List.sum_cons, ih, S_len, List.flatten_cons, List.length_append]
    rw [this]; omega
  · rw [join0_S]

theorem splitL_length (c : Nat) : ∀ l : List Nat, (splitL c l).length ≤ l.length + 1
  | [] => Nat.le_refl _
  | x :: r => by
    have ih := splitL_length c r
    unfold splitL
    split
    · rw [List.length_cons, List.length_cons]; omega
    · split
      · simp
      · rename_i u t h
        rw [h] at ih
        rw [List.length_cons] at ih ⊢
        rw [List.length_cons]; omega
theorem jl_len_le {sep : List Nat} : ∀ {ls : List (List Nat)} {s : List Nat}, s ∈ ls → s.length ≤ (jl sep ls).length
  | [y], s, hs => by rw [List.mem_singleton.mp hs]; exact Nat.le_refl _
  | y :: z :: r, s, hs => by
    show _ ≤ (y ++ sep ++ jl sep (z :: r)).length
    rw [List.length_append, List.length_append]
    rcases List.mem_cons.mp hs with rfl | hs
    · omega
    · have := jl_len_le (sep := sep) hs
      omega
theorem splitL_len_le (c : Nat) {l s : List Nat} (hs : s ∈ splitL c l) : s.length ≤ l.length := by
  have := jl_len_le (sep := [c]) hs
  rw [splitL_jl] at this; exact this
noncomputable def escL (s : List Nat) : List Nat := s.flatMap Ec
theorem Ec4 (c : Nat) : (Ec c).length ≤ 4 := by have := Ec_len c; omega
/-- its first statement -/
theorem tp_first (H : Fns G) (T : TwinG G p) (Te : EscTab G d f) (hf : EscAl f) {l : List Nat} (hl : ∀ c ∈ l, c ∈ Al) (hlen : l.length ≤ 3000) {Q : Flo → List V → Prop}
    (h : EX G (n + 2) sc6 t (bd6.drop 1) [.str (S l), .own ((((splitL 42 l).map escL).map S).map .str), .unb] Q) : EX G (n + 2) sc6 t bd6 [.str (S l), .unb, .unb] Q := by
  unfold bd6
  have e42 : ("*" : Str) = S [42] := by decide +kernel
  have eg : ((splitL 42 l).map S).map (fun x : Str => S (x.cps.toList.flatMap Ec)) = ((splitL 42 l).map escL).map S := by
    rw [List.map_map, List.map_map]
    exact List.map_congr_left fun s _ => by simp only [Function.comp]; rw [S_list]; rfl
  refine x_cons (x_assign_own (l := (((splitL 42 l).map escL).map S).map .str) i6_parts rfl ?_ (Nat.le_of_ble_eq_true rfl) (by simp) (fun _ _ => rfl) h)
  rw [← eg]
  refine f_list_map (n := n + 1) (ys := (splitL 42 l).map S) (g := fun x : Str => S (x.cps.toList.flatMap Ec)) T g6_list g6_map H.n_list H.n_map g6_escape d_escape (fun _ => rfl) (fun _ => rfl) (fun _ _ => rfl) (fun _ => rfl) ?_ (fun x hx => ?_) ?_ ?_
  · rw [← split_star]
    exact e_methc PySem.F.slot_str_split ty_split (fun _ _ => rfl) (fun _ => rfl) rfl (fun _ _ => rfl) (e_var i6_path rfl rfl rfl d_path) (sp_one (fun _ => rfl) e_str) (e42 ▸ c_split (by decide +kernel) (by rw [S_len]; omega))
  · obtain ⟨s, hs, rfl⟩ := List.mem_map.mp hx
    rw [S_list]
    have := splitL_len_le 42 hs
    exact s_esc H Te hf (fun c hc => hl c (splitL_sub 42 hs hc)) (by omega)
  · simpa using splitL_ne 42 l
  · rw [List.length_map]
    have := splitL_length 42 l
    omega
theorem s_tp0 (H : Fns G) (T : TwinG G p) (Te : EscTab G d f) (hf : EscAl f) {l : List Nat} (hl : ∀ c ∈ l, c ∈ Al) (hlen : l.length ≤ 3000) (hst : 42 ∉ l) :
    CallN G (n + 3) t "translate_pattern" [.str (S l)] (.str (S (ruleL Ec [] [] l))) := by
  refine calln ["path"] 2 H.f6 k6 (by decide +kernel) (fun _ _ _ _ _ vals h => by obtain ⟨v, rfl⟩ := len1 h; rfl) rfl (by simp [V.plain]) ?_
  show EX G (n + 2) sc6 t bd6 [.str (S l), .unb, .unb] _
  refine tp_first H T Te hf hl hlen ?_
  rw [splitL_one hst]
  have hbl := flat_len Ec4 l
  have hR : ruleL Ec [] [] l = ([] ++ [[46, 42] ++ l.flatMap Ec]).flatten := by simp [ruleL]
  rw [hR]
  refine x_cons (x_for_range (a := 1) (b := 0) (fun i σ' => ∃ w : V, σ' = [.str (S l), .own ((([] ++ [l.flatMap Ec]).map S).map .str), w]) i6_i rfl ?_ (fun _ _ => rfl) (small_one (by decide) (by decide) (by decide) (by decide)) ⟨_, rfl⟩ ?_ ?_)
  · exact e_tcall g6_range H.n_range bb_range nn_range d_range (fun _ => rfl) (fun _ _ => rfl) (sp_cons (fun _ => rfl) e_int (sp_one (fun _ => rfl) (e_is (e_bin (e_bcall g6_len H.n_len bb_len nn_len d_len (fun _ => rfl) (fun _ _ => rfl) (sp_one (fun _ => rfl) (e_own i6_parts rfl rfl d_parts)) (c_len_loan (by simp))) e_int (BinV.subi _ _)) rfl)) rfl) c_range2
  · intro i σ' hi _
    exact absurd hi (by simp)
  · rintro σ' ⟨w, rfl⟩
    exact tp_end (by omega) (by simp) (by simp only [List.nil_append, List.flatten_cons, List.flatten_nil, List.append_nil, List.length_append, List.length_cons, List.length_nil]; omega)
theorem s_tp1 (H : Fns G) (T : TwinG G p) (Te : EscTab G d f) (hf : EscAl f) {l r0 rl : List Nat} {mid : List (List Nat)} (hl : ∀ c ∈ l, c ∈ Al) (hlen : l.length ≤ 3000) (hs : splitL 42 l = r0 :: (mid ++ [rl])) (C : Cut l r0 mid rl) :
    CallN G (n + 3) t "translate_pattern" [.str (S l)] (.str (S (ruleL Ec r0 mid rl))) := by
  refine calln ["path"] 2 H.f6 k6 (by decide +kernel) (fun _ _ _ _ _ vals h => by obtain ⟨v, rfl⟩ := len1 h; rfl) rfl (by simp [V.plain]) ?_
  show EX G (n + 2) sc6 t bd6 [.str (S l), .unb, .unb] _
  refine tp_first H T Te hf hl hlen ?_
  have hcount := splitL_length 42 l
  have hmem : ∀ s ∈ splitL 42 l, (s.flatMap Ec).length ≤ 12000 := fun s h => by
    have h1 := splitL_len_le 42 h
    have h2 := flat_len Ec4 s
    omega
  have hrule := rule_len Ec4 C
  rw [hs] at hmem hcount ⊢
  rw [List.length_cons, List.length_append, List.length_singleton] at hcount
  have hb := hmem rl (by simp)
  have hm : ∀ s ∈ mid.map escL, s.length ≤ 12000 := fun s h => by
    obtain ⟨s', h', rfl⟩ := List.mem_map.mp h
    exact hmem s' (by simp [h'])
  have hR : ruleL Ec r0 mid rl = (((r0.flatMap Ec) :: (mid.map escL).map wrapL) ++ [[46, 42] ++ rl.flatMap Ec]).flatten := by
    have : mid.flatMap (grp Ec) = ((mid.map escL).map wrapL).flatten := by
      rw [List.map_map, List.flatMap_def]; rfl
    rw [ruleL, this]
    simp
  have hsum : ((((r0.flatMap Ec) :: (mid.map escL).map wrapL) ++ [[46, 42] ++ rl.flatMap Ec]).flatten).length ≤ 1000000 := by rw [← hR]; omega
  rw [hR]
  have e0 : (r0 :: (mid ++ [rl])).map escL = tparts (r0.flatMap Ec) (mid.map escL) (rl.flatMap Ec) 0 := by simp [tparts, escL]
  have hml : (mid.map escL).length = mid.length := List.length_map ..
  rw [e0]
  generalize mid.map escL = md at *
  generalize r0.flatMap Ec = a at *
  generalize rl.flatMap Ec = b at *
  have htl : ∀ i, (((tparts a md b i).map S).map V.str).length = md.length + 2 := fun i => by rw [List.length_map, List.length_map, tparts_len]
  refine x_cons (x_for_range (a := 1) (b := md.length + 1) (fun i σ' => ∃ w : V, σ' = [.str (S l), .own (((tparts a md b i).map S).map .str), w]) i6_i rfl ?_ (fun _ _ => rfl) (small_one (by omega) (by omega) (by omega) (by omega)) ⟨_, rfl⟩ ?_ ?_)
  · refine e_tcall g6_range H.n_range bb_range nn_range d_range (fun _ => rfl) (fun _ _ => rfl) (sp_cons (fun _ => rfl) e_int (sp_one (fun _ => rfl) (e_is (e_bin (e_bcall g6_len H.n_len bb_len nn_len d_len (fun _ => rfl) (fun _ _ => rfl) (sp_one (fun _ => rfl) (e_own i6_parts rfl rfl d_parts)) (c_len_loan (by rw [htl]; omega))) e_int (BinV.subi _ _)) ?_)) rfl) c_range2
    rw [htl]
    congr 1
    omega
  · rintro i σ' hi ⟨w, rfl⟩
    have hi' : i < md.length := by omega
    obtain ⟨s, hsi⟩ : ∃ s, md[i]? = some s := ⟨_, List.getElem?_eq_getElem hi'⟩
    have hsl := hm s (List.mem_of_getElem? hsi)
    refine ⟨Nat.le_of_ble_eq_true rfl, ?_⟩
    dsimp only [List.set_cons_zero, List.set_cons_succ]
    have hget : (((tparts a md b i).map S).map V.str)[(1 + (i : Int)).toNat]? = some (.str (S s)) := by
      rw [show (1 + (i : Int)).toNat = 1 + i by omega, List.getElem?_map, List.getElem?_map, tparts_get hsi]; rfl
    refine x_cons (x_setitem (v := .str (S (wrapL s))) (i := 1 + (i : Int)) (j := 1 + i) i6_parts rfl rfl d_parts (e_wrap (e_item (i := 1 + (i : Int)) (fun _ _ => ⟨_, rfl⟩) (e_own i6_parts rfl rfl d_parts) (e_var i6_i rfl rfl rfl d_i) (by omega) (by omega) hget) (by omega)) rfl (e_var i6_i rfl rfl rfl d_i) (.inl ⟨by omega, by omega⟩) (by rw [htl]; omega) (by omega) (fun _ _ => rfl) (x_nil ⟨.int (1 + (i : Int)), ?_⟩))
    dsimp only [List.set_cons_zero, List.set_cons_succ]
    rw [← tparts_set hsi]
    simp
  · rintro σ' ⟨w, rfl⟩
    have e1 : tparts a md b ((md.length : Int) + 1 - 1).toNat = (a :: md.map wrapL) ++ [b] := by
      rw [show ((md.length : Int) + 1 - 1).toNat = md.length by omega]
      unfold tparts
      rw [List.take_length, List.drop_length]; simp
    rw [e1]
    refine tp_end (by omega) (by simp; omega) hsum
end
/-! find and rfind against the set of all fronts -/
section
variable (p : List Nat)
noncomputable def Mt (s : List Nat) (k : Nat) : Bool := (p.drop k).take s.length == s
theorem mt_at (s : List Nat) (k : Nat) : StrLaws.At (S p) (S s) (S p).length k ↔ k ≤ p.length ∧ Mt p s k = true := by
  unfold StrLaws.At Mt
  rw [StrLaws.subAt_eq, S_list, S_list, S_len, S_len]
  constructor
  · rintro ⟨h1, h2⟩; exact ⟨by omega, h2⟩
  · rintro ⟨h1, h2⟩
    refine ⟨?_, h2⟩
    have := congrArg List.length (beq_iff_eq.mp h2)
    rw [List.length_take, List.length_drop] at this
    omega
theorem from_nat {n i : Nat} : fromIndex n (i : Int) = i := by unfold fromIndex; omega
theorem find_spec (s : List Nat) (e : Nat) : (Txt.find3 (S p) (S s) (e : Int) = -1 ∧ ∀ k, e ≤ k → k ≤ p.length → Mt p s k = false) ∨
    ∃ k : Nat, Txt.find3 (S p) (S s) (e : Int) = k ∧ e ≤ k ∧ k ≤ p.length ∧ Mt p s k = true ∧ ∀ j, e ≤ j → j < k → Mt p s j = false := by
  unfold Txt.find3
  rw [from_nat]
  rcases StrLaws.occ_head_from (S p) (S s) e 1 (Nat.le_refl _) with ⟨h1, h2⟩ | ⟨i, r, h1, h2, h3, h4⟩
  · refine .inl ⟨by rw [h1], fun k hk hl => ?_⟩
    cases q : Mt p s k with
    | false => rfl
    | true => exact absurd ((mt_at p s k).mpr ⟨hl, q⟩) (h2 k hk)
  · obtain ⟨a, b⟩ := (mt_at p s i).mp h3
    refine .inr ⟨i, by rw [h1], h2, a, b, fun j hj hji => ?_⟩
    cases q : Mt p s j with
    | false => rfl
    | true => exact absurd ((mt_at p s j).mpr ⟨by omega, q⟩) (h4 j hj hji)
theorem last_mem (s : List Nat) : ∀ (l : List Nat) (st : Option Nat) (a : Nat), (forIn l st (StrLaws.lastBody (S p) (S s) (S p).length)).run = some a → st = some a ∨ a ∈ l
  | [], st, a, h => by
    left; simpa using h
  | x :: l, st, a, h => by
    rw [List.forIn_cons] at h
    unfold StrLaws.lastBody at h
    split at h
    · rcases last_mem s l _ a h with q | q
      · right; cases q; exact List.mem_cons_self
      · right; exact List.mem_cons_of_mem _ q
    · rcases last_mem s l _ a h with q | q
      · left; exact q
      · right; exact List.mem_cons_of_mem _ q
theorem rfind_spec (s : List Nat) (e : Nat) : (rfind3 (S p) (S s) (e : Int) = -1 ∧ ∀ k, e ≤ k → k ≤ p.length → Mt p s k = false) ∨
    ∃ k : Nat, rfind3 (S p) (S s) (e : Int) = k ∧ e ≤ k ∧ k ≤ p.length ∧ Mt p s k = true ∧ ∀ j, k < j → j ≤ p.length → Mt p s j = false := by
  unfold rfind3
  rw [from_nat, StrLaws.last_eq, S_len]
  have key := StrLaws.last_run (S p) (S s) p.length (List.range' e (p.length + 1 - e)) [] none (fun _ h => nomatch h) (fun _ h => nomatch h) List.pairwise_lt_range'
  have key2 := last_mem p s (List.range' e (p.length + 1 - e)) none
  rw [S_len] at key2
  have mem : ∀ k, e ≤ k → k ≤ p.length → k ∈ [] ++ List.range' e (p.length + 1 - e) := fun k h1 h2 => by
    rw [List.nil_append, List.mem_range'_1]; omega
  have at' : ∀ k, k ≤ p.length → Mt p s k = true → StrLaws.At (S p) (S s) p.length k := fun k h1 h2 => by
    have := (mt_at p s k).mpr ⟨h1, h2⟩
    rw [S_len] at this; exact this
  cases hr : (forIn (List.range' e (p.length + 1 - e)) none (StrLaws.lastBody (S p) (S s) p.length)).run with
  | none =>
    rw [hr] at key
    refine .inl ⟨rfl, fun k h1 h2 => ?_⟩
    cases q : Mt p s k with
    | false => rfl
    | true => exact absurd (at' k h2 q) (key k (mem k h1 h2))
  | some a =>
    rw [hr] at key
    have ha : a ∈ List.range' e (p.length + 1 - e) := by
      rcases key2 a hr with h | h
      · cases h
      · exact h
    have hA : StrLaws.At (S p) (S s) (S p).length a := by rw [S_len]; exact key.1
    obtain ⟨b1, b2⟩ := (mt_at p s a).mp hA
    refine .inr ⟨a, rfl, (List.mem_range'_1.mp ha).1, b1, b2, fun j h1 h2 => ?_⟩
    cases q : Mt p s j with
    | false => rfl
    | true => exact absurd (at' j h2 q) (key.2 j (mem j (by have := (List.mem_range'_1.mp ha).1; omega) h2) h1)
theorem mt_cons (c : Nat) (s : List Nat) (k : Nat) : Mt p (c :: s) k = ((p[k]? == some c) && Mt p s (k + 1)) := by
  unfold Mt
  cases h : p[k]? with
  | none =>
    have hl := List.getElem?_eq_none_iff.mp h
    rw [List.drop_eq_nil_of_le hl]; rfl
  | some d =>
    have hlt : k < p.length := (List.getElem?_eq_some_iff.mp h).1
    rw [List.drop_eq_getElem_cons hlt]
    rw [List.getElem?_eq_getElem hlt] at h
    rw [Option.some.inj h]
    rw [List.length_cons, List.take_succ_cons]
    show (d == c && _) = _
    congr 1
theorem lit_fold : ∀ (s : List Nat), 42 ∉ s → ∀ es : List Nat, s.foldl (fstepN p) es = (es.filter (Mt p s)).map (· + s.length)
  | [], _, es => by
    have : Mt p [] = fun _ => true := by funext k; rfl
    rw [this, List.filter_eq_self.mpr (by simp)]
    simp
  | c :: s, h, es => by
    have hc : c ≠ 42 := fun e => h (by rw [e]; exact List.mem_cons_self)
    rw [List.foldl_cons, lit_fold s (fun q => h (List.mem_cons_of_mem _ q))]
    unfold fstepN
    rw [if_neg hc]
    have e1 : Mt p (c :: s) = fun k => (p[k]? == some c) && Mt p s (k + 1) := by funext k; exact mt_cons p c s k
    rw [e1, List.filter_map, List.map_map, ← List.filter_filter]
    have e2 : (es.filter fun k => p[k]? == some c).filter (Mt p s ∘ fun x => x + 1) = (es.filter fun a => Mt p s (a + 1)).filter (fun k => p[k]? == some c) := by
      rw [List.filter_filter, List.filter_filter]
      apply List.filter_congr
      intro k _
      exact Bool.and_comm _ _
    rw [e2, List.filter_filter]
    have e3 : (fun x => x + s.length) ∘ (fun x => x + 1) = fun x => x + (c :: s).length := by
      funext x; simp only [Function.comp, List.length_cons]; omega
    rw [e3]
/-- all fronts from e on -/
noncomputable def Rg (e : Nat) : List Nat := (List.range (p.length + 1 - e)).map (e + ·)
theorem rg_eq (e : Nat) : Rg p e = List.range' e (p.length + 1 - e) := by
  unfold Rg
  rw [List.range'_eq_map_range]
theorem head_filter {q : Nat → Bool} : ∀ (m e : Nat), ((List.range' e m).filter q).head? = none ∧ (∀ k, e ≤ k → k < e + m → q k = false) ∨
    ∃ k, ((List.range' e m).filter q).head? = some k ∧ e ≤ k ∧ k < e + m ∧ q k = true ∧ ∀ j, e ≤ j → j < k → q j = false
  | 0, e => .inl ⟨rfl, fun k h1 h2 => by omega⟩
  | m + 1, e => by
    rw [List.range'_succ, List.filter_cons]
    by_cases h : q e = true
    · rw [if_pos h]
      exact .inr ⟨e, rfl, Nat.le_refl _, by omega, h, fun j h1 h2 => by omega⟩
    · rw [if_neg h]
      have hf : q e = false := by simpa using h
      rcases head_filter m (e + 1) with ⟨h1, h2⟩ | ⟨k, h1, h2, h3, h4, h5⟩
      · refine .inl ⟨h1, fun k a b => ?_⟩
        rcases Nat.lt_or_eq_of_le a with a | a
        · exact h2 k (by omega) (by omega)
        · rw [← a]; exact hf
      · refine .inr ⟨k, h1, by omega, by omega, h4, fun j a b => ?_⟩
        rcases Nat.lt_or_eq_of_le a with a | a
        · exact h5 j (by omega) b
        · rw [← a]; exact hf
theorem last_filter {q : Nat → Bool} : ∀ (m e : Nat), ((List.range' e m).filter q).getLast? = none ∧ (∀ k, e ≤ k → k < e + m → q k = false) ∨
    ∃ k, ((List.range' e m).filter q).getLast? = some k ∧ e ≤ k ∧ k < e + m ∧ q k = true ∧ ∀ j, k < j → j < e + m → q j = false
  | 0, e => .inl ⟨rfl, fun k h1 h2 => by omega⟩
  | m + 1, e => by
    rw [List.range'_concat, List.filter_append]
    by_cases h : q (e + 1 * m) = true
    · rw [List.filter_cons, if_pos h, List.filter_nil, List.getLast?_concat]
      exact .inr ⟨e + 1 * m, rfl, by omega, by omega, h, fun j h1 h2 => by omega⟩
    · rw [List.filter_cons, if_neg h, List.filter_nil, List.append_nil]
      have hf : q (e + 1 * m) = false := by simpa using h
      rcases last_filter m e with ⟨h1, h2⟩ | ⟨k, h1, h2, h3, h4, h5⟩
      · refine .inl ⟨h1, fun k a b => ?_⟩
        by_cases hk : k = e + 1 * m
        · rw [hk]; exact hf
        · exact h2 k a (by omega)
      · refine .inr ⟨k, h1, h2, by omega, h4, fun j a b => ?_⟩
        by_cases hk : j = e + 1 * m
        · rw [hk]; exact hf
        · exact h5 j a (by omega)
theorem star_step {es : List Nat} {e : Nat} (h : es.head? = some e) (s : List Nat) (hs : 42 ∉ s) : (42 :: s).foldl (fstepN p) es = ((Rg p e).filter (Mt p s)).map (· + s.length) := by
  rw [List.foldl_cons, lit_fold p s hs]
  unfold fstepN
  rw [if_pos rfl]
  cases es with
  | nil => cases h
  | cons a es => cases h; rfl
theorem fold_nil : ∀ l : List Nat, l.foldl (fstepN p) [] = []
  | [] => rfl
  | c :: l => by
    rw [List.foldl_cons]
    have : fstepN p [] c = [] := by unfold fstepN; split <;> rfl
    rw [this]; exact fold_nil l
theorem mt_len {s : List Nat} {k : Nat} (hk : k ≤ p.length) (h : Mt p s k = true) : k + s.length ≤ p.length := by
  unfold Mt at h
  have := congrArg List.length (beq_iff_eq.mp h)
  rw [List.length_take, List.length_drop] at this
  omega
/-- the walk over the middle parts keeps the least front -/
theorem mid_fold : ∀ (mid : List (List Nat)) (es : List Nat) (e : Nat), (∀ s ∈ mid, 42 ∉ s) → es.head? = some e → e ≤ p.length →
    ((∃ e' : Nat, (mid.map S).foldl (rstep (S p)) (some (e : Int)) = some (e' : Int) ∧ ((mid.flatMap fun s => 42 :: s).foldl (fstepN p) es).head? = some e' ∧ e' ≤ p.length) ∨
     ((mid.map S).foldl (rstep (S p)) (some (e : Int)) = none ∧ (mid.flatMap fun s => 42 :: s).foldl (fstepN p) es = []))
  | [], es, e, _, h, hl => .inl ⟨e, rfl, h, hl⟩
  | s :: mid, es, e, hm, h, hl => by
    have hs := hm s List.mem_cons_self
    have hm' : ∀ s ∈ mid, 42 ∉ s := fun s h => hm s (List.mem_cons_of_mem _ h)
    rw [List.map_cons, List.foldl_cons, List.flatMap_cons, List.foldl_append, star_step p h s hs, rg_eq]
    have hr : rstep (S p) (some (e : Int)) (S s) = if decide (Txt.find3 (S p) (S s) (e : Int) < 0) = true then none else some (Txt.find3 (S p) (S s) (e : Int) + (S s).length) := rfl
    rw [hr]
    rcases find_spec p s e with ⟨f1, f2⟩ | ⟨k, f1, f2, f3, f4, f5⟩
    · rw [f1, if_pos (by decide), rstep_none]
      right
      refine ⟨rfl, ?_⟩
      have : (List.range' e (p.length + 1 - e)).filter (Mt p s) = [] := by
        rw [List.filter_eq_nil_iff]
        intro k hk
        rw [List.mem_range'_1] at hk
        rw [f2 k hk.1 (by omega)]; simp
      rw [this, List.map_nil, fold_nil]
    · rw [f1, if_neg (by simp), S_len]
      have hh : (((List.range' e (p.length + 1 - e)).filter (Mt p s)).map (· + s.length)).head? = some (k + s.length) := by
        rw [List.head?_map]
        rcases head_filter (q := Mt p s) (p.length + 1 - e) e with ⟨h1, h2⟩ | ⟨k', h1, h2, h3, h4, h5⟩
        · rw [h2 k f2 (by omega)] at f4; cases f4
        · have : k' = k := by
            rcases Nat.lt_trichotomy k' k with q | q | q
            · rw [f5 k' h2 q] at h4; cases h4
            · exact q
            · rw [h5 k f2 q] at f4; cases f4
          rw [h1, this]; rfl
      have := mid_fold mid _ (k + s.length) hm' hh (mt_len p f3 f4)
      rw [show ((k : Int) + (s.length : Int)) = ((k + s.length : Nat) : Int) by omega]
      exact this
theorem reach_far {pat r0 rl : List Nat} {mid : List (List Nat)} (C : Cut pat r0 mid rl) : reachN (S r0) (mid.map S) (S rl) (S p) = farN pat p := by
  unfold reachN farN
  rw [S_len, slice_to, S_list]
  have e0 : r0.foldl (fstepN p) [0] = if Mt p r0 0 = true then [r0.length] else [] := by
    rw [lit_fold p r0 C.f0, List.filter_cons, List.filter_nil]
    split <;> simp
  have e1 : ((⟨(p.take r0.length).toArray⟩ : Str) != S r0) = !Mt p r0 0 := by
    unfold Mt bne
    rw [List.drop_zero]
    congr 1
    exact S_beq _ _
  rw [e1, C.eq, List.foldl_append, e0]
  by_cases h0 : Mt p r0 0 = true
  · rw [if_pos h0, h0, if_neg (by simp), List.flatMap_append, List.foldl_append]
    have hl0 := mt_len p (Nat.zero_le _) h0
    rcases mid_fold p mid [r0.length] r0.length C.fm rfl (by omega) with ⟨e', g1, g2, g3⟩ | ⟨g1, g2⟩
    · rw [g1]
      generalize (mid.flatMap fun s => 42 :: s).foldl (fstepN p) [r0.length] = es at g2
      rw [List.flatMap_cons, List.flatMap_nil, List.append_nil, star_step p g2 rl C.fl, rg_eq, List.getLast?_map]
      dsimp only
      rcases rfind_spec p rl e' with ⟨f1, f2⟩ | ⟨k, f1, f2, f3, f4, f5⟩
      · rw [f1, if_neg (by decide)]
        rcases last_filter (q := Mt p rl) (p.length + 1 - e') e' with ⟨h1, h2⟩ | ⟨k', h1, h2, h3, h4, h5⟩
        · rw [h1]; rfl
        · rw [f2 k' h2 (by omega)] at h4; cases h4
      · rw [f1, if_pos (by simp)]
        rcases last_filter (q := Mt p rl) (p.length + 1 - e') e' with ⟨h1, h2⟩ | ⟨k', h1, h2, h3, h4, h5⟩
        · rw [h2 k f2 (by omega)] at f4; cases f4
        · have : k' = k := by
            rcases Nat.lt_trichotomy k' k with q | q | q
            · rw [h5 k q (by omega)] at f4; cases f4
            · exact q
            · rw [f5 k' q (by omega)] at h4; cases h4
          rw [h1, this, S_len]
          show (k : Int) + (rl.length : Int) = ((k + rl.length : Nat) : Int)
          omega
    · rw [g1, g2]
      rw [fold_nil]; rfl
  · have h0' : Mt p r0 0 = false := by simpa using h0
    rw [if_neg h0, h0', if_pos (by simp), fold_nil]; rfl
end
/-! what _join_translated_parts writes of the tokens of a pattern -/
noncomputable def toksL (ls : List (List Nat)) : List (Option Str) := ls.flatMap fun s => none :: s.map tokc
theorem tok_star : tokc 42 = none := rfl
theorem tok_lit {c : Nat} (h : c ≠ 42) : tokc c = some (S (Eb c)) := by unfold tokc; rw [if_neg h]
theorem lead_lit : ∀ {s : List Nat}, 42 ∉ s → ∀ r, lead (s.map tokc ++ r) = s.map (fun c => S (Eb c)) ++ lead r ∧ rest' (s.map tokc ++ r) = rest' r
  | [], _, r => ⟨rfl, rfl⟩
  | c :: s, h, r => by
    obtain ⟨h1, h2⟩ := lead_lit (s := s) (fun q => h (List.mem_cons_of_mem _ q)) r
    have hc : c ≠ 42 := fun q => h (by rw [q]; exact List.mem_cons_self)
    show lead (tokc c :: (s.map tokc ++ r)) = _ ∧ rest' (tokc c :: (s.map tokc ++ r)) = _
    rw [tok_lit hc]
    exact ⟨by show _ :: lead (s.map tokc ++ r) = _; rw [h1]; rfl, h2⟩
theorem join_lit (s : List Nat) : Txt.join "" (s.map fun c => S (Eb c)) = S (s.flatMap Eb) := by
  have := join0_S (s.map Eb)
  rw [List.map_map] at this
  rw [List.flatMap_def]; exact this
noncomputable def lastP (rl : List Nat) : List (List Nat) := if rl = [] then [[46, 42]] else [[46, 42], rl.flatMap Eb]
theorem dotstar : (".*" : Str) = S [46, 42] := by decide +kernel
theorem grp_open : ("(?>.*?" : Str) = S [40, 63, 62, 46, 42, 63] := by decide +kernel
theorem grp_close : (")" : Str) = S [41] := by decide +kernel
theorem jloop_toks : ∀ (mid : List (List Nat)) (rl : List Nat) (k : Nat) (res : List (List Nat)), (∀ s ∈ mid, 42 ∉ s) → 42 ∉ rl → (toksL (mid ++ [rl])).length ≤ k →
    jloop k (toksL (mid ++ [rl])) (res.map S) = (res ++ mid.map (grp Eb) ++ lastP rl).map S
  | [], rl, k, res, _, hl, hk => by
    have e : toksL ([] ++ [rl]) = none :: rl.map tokc := by simp [toksL]
    rw [e] at hk ⊢
    obtain ⟨k, rfl⟩ : ∃ j, k = j + 1 := ⟨k - 1, by rw [List.length_cons] at hk; omega⟩
    unfold jloop lastP
    by_cases hr : rl = []
    · subst hr
      rw [if_pos (show (List.map tokc []).isEmpty = true from rfl), if_pos (show ([] : List Nat) = [] from rfl), dotstar]; simp
    · have h1 : (rl.map tokc).isEmpty = false := by
        cases rl with
        | nil => exact absurd rfl hr
        | cons => rfl
      obtain ⟨h2, h3⟩ := lead_lit hl []
      rw [List.append_nil] at h2 h3
      rw [if_neg (by rw [h1]; simp), h3, if_pos (show (rest' []).isEmpty = true from rfl), if_neg hr, h2]
      show res.map S ++ [(".*" : Str)] ++ [Txt.join "" (rl.map (fun c => S (Eb c)) ++ [])] = _
      rw [List.append_nil, join_lit, dotstar]; simp
  | s :: mid, rl, k, res, hm, hl, hk => by
    have hs := hm s List.mem_cons_self
    have hm' : ∀ s ∈ mid, 42 ∉ s := fun s h => hm s (List.mem_cons_of_mem _ h)
    have e : toksL (s :: mid ++ [rl]) = none :: (s.map tokc ++ toksL (mid ++ [rl])) := by simp [toksL]
    rw [e] at hk ⊢
    obtain ⟨k, rfl⟩ : ∃ j, k = j + 1 := ⟨k - 1, by rw [List.length_cons] at hk; omega⟩
    obtain ⟨r, hr⟩ : ∃ r, toksL (mid ++ [rl]) = none :: r := by
      cases mid with
      | nil => exact ⟨rl.map tokc, by simp [toksL]⟩
      | cons u m => exact ⟨u.map tokc ++ toksL (m ++ [rl]), by simp [toksL]⟩
    obtain ⟨h2, h3⟩ := lead_lit hs (toksL (mid ++ [rl]))
    have h4 : rest' (toksL (mid ++ [rl])) = toksL (mid ++ [rl]) := by rw [hr]; rfl
    have h5 : lead (toksL (mid ++ [rl])) = [] := by rw [hr]; rfl
    have hne : (s.map tokc ++ toksL (mid ++ [rl])).isEmpty = false := by rw [hr]; cases s <;> rfl
    have hne2 : (toksL (mid ++ [rl])).isEmpty = false := by rw [hr]; rfl
    unfold jloop
    rw [if_neg (by rw [hne]; simp), h3, h4, if_neg (by rw [hne2]; simp), h2, h5, List.append_nil, join_lit]
    have ih := jloop_toks mid rl k (res ++ [grp Eb s]) hm' hl (by
      rw [List.length_cons, List.length_append] at hk; omega)
    have e2 : res.map S ++ [("(?>.*?" : Str) ++ S (s.flatMap Eb) ++ ")"] = (res ++ [grp Eb s]).map S := by
      rw [grp_open, grp_close, S_app, S_app, List.map_append]; rfl
    rw [e2, ih]; simp
section
variable {pat r0 rl : List Nat} {mid : List (List Nat)}
theorem toks_cut (C : Cut pat r0 mid rl) : pat.map tokc = r0.map tokc ++ toksL (mid ++ [rl]) := by
  rw [C.eq, List.map_append, toksL, List.map_flatMap]
  congr 1
theorem jl_cut (C : Cut pat r0 mid rl) : jloop (pat.map tokc).length (rest' (pat.map tokc)) (lead (pat.map tokc)) = (r0.map Eb ++ mid.map (grp Eb) ++ lastP rl).map S := by
  have hL : (toksL (mid ++ [rl])).length ≤ (pat.map tokc).length := by rw [toks_cut C, List.length_append]; omega
  obtain ⟨r, hr⟩ : ∃ r, toksL (mid ++ [rl]) = none :: r := by
    cases mid with
    | nil => exact ⟨rl.map tokc, by simp [toksL]⟩
    | cons u m => exact ⟨u.map tokc ++ toksL (m ++ [rl]), by simp [toksL]⟩
  generalize (pat.map tokc).length = N at *
  obtain ⟨h2, h3⟩ := lead_lit C.f0 (toksL (mid ++ [rl]))
  have h4 : rest' (toksL (mid ++ [rl])) = toksL (mid ++ [rl]) := by rw [hr]; rfl
  have h5 : lead (toksL (mid ++ [rl])) = [] := by rw [hr]; rfl
  rw [toks_cut C, h2, h3, h4, h5, List.append_nil]
  have e : r0.map (fun c => S (Eb c)) = (r0.map Eb).map S := by rw [List.map_map]; rfl
  rw [e]
  exact jloop_toks mid rl N (r0.map Eb) C.fm C.fl hL
theorem flat_cut : (r0.map Eb ++ mid.map (grp Eb) ++ lastP rl).flatten = ruleL Eb r0 mid rl := by
  have : (lastP rl).flatten = [46, 42] ++ rl.flatMap Eb := by
    unfold lastP
    split
    · rename_i h; rw [h]; rfl
    · simp
  rw [List.flatten_append, List.flatten_append, this, ruleL, List.flatMap_def (l := r0), List.flatMap_def (l := mid)]
  simp
theorem joinTok_cut (C : Cut pat r0 mid rl) : joinTok (pat.map tokc) = S ([40, 63, 115, 58] ++ ruleL Eb r0 mid rl ++ [41, 92, 90]) := by
  unfold joinTok
  rw [jl_cut C, join0_S, flat_cut, show ("(?s:" : Str) = S [40, 63, 115, 58] by decide +kernel, show (")\\Z" : Str) = S [41, 92, 90] by decide +kernel, S_app, S_app]
theorem Eb_len (c : Nat) : (Eb c).length ≤ 4 := by
  unfold Eb
  split
  · simp
  · split
    · simp
    · have := Ec_len c; omega
theorem lead_sum : ∀ (l : List Nat), (∀ x ∈ lead (l.map tokc), x.length ≤ 4) ∧ (lead (l.map tokc)).length ≤ l.length
  | [] => ⟨fun x h => (nomatch h), Nat.le_refl _⟩
  | c :: l => by
    obtain ⟨h1, h2⟩ := lead_sum l
    by_cases hc : c = 42
    · subst hc
      exact ⟨fun x h => (nomatch h), Nat.zero_le _⟩
    · show (∀ x ∈ lead (tokc c :: l.map tokc), _) ∧ (lead (tokc c :: l.map tokc)).length ≤ _
      rw [tok_lit hc]
      refine ⟨fun x h => ?_, ?_⟩
      · rcases List.mem_cons.mp h with rfl | h
        · rw [S_len]; exact Eb_len c
        · exact h1 x h
      · show (lead (l.map tokc)).length + 1 ≤ l.length + 1
        omega
theorem sum_len4 : ∀ xs : List Str, (∀ x ∈ xs, x.length ≤ 4) → (xs.map (·.length)).sum ≤ 4 * xs.length
  | [], _ => by simp
  | x :: xs, h => by
    have := sum_len4 xs fun y hy => h y (List.mem_cons_of_mem _ hy)
    have := h x List.mem_cons_self
    rw [List.map_cons, List.sum_cons, List.length_cons]; omega
theorem join_len (xs : List Str) : (Txt.join "" xs).length = (xs.map (·.length)).sum := by
  rw [map_S_of xs, join0_S, S_len]
  rw [List.map_map]
  have : ∀ ls : List (List Nat), ls.flatten.length = (ls.map ((fun x : Str => x.length) ∘ S)).sum := by
    intro ls
    induction ls with
    | nil => rfl
    | cons x r ih => rw [List.flatten_cons, List.length_append, ih, List.map_cons, List.sum_cons, Function.comp, S_len]
  exact this _
theorem gap_toks : ∀ {l : List Nat}, NoAdj l → Gap (l.map tokc)
  | [], _ => trivial
  | [c], _ => by
    show Gap [tokc c]
    unfold tokc
    split <;> trivial
  | a :: b :: r, h => by
    have ih := gap_toks (l := b :: r) h.2
    show Gap (tokc a :: tokc b :: r.map tokc)
    have ih' : Gap (tokc b :: r.map tokc) := ih
    by_cases ha : a = 42
    · have hb : b ≠ 42 := fun q => h.1 ⟨ha, q⟩
      rw [tok_lit hb] at ih' ⊢
      rw [ha, tok_star]
      exact ih'
    · rw [tok_lit ha]
      exact ih'
theorem tokOk (C : Cut pat r0 mid rl) (hadj : NoAdj pat) (hl : pat.length ≤ 3000) : TokOk (pat.map tokc) := by
  have hr := rule_len Eb_len C
  refine ⟨by rw [List.length_map]; omega, gap_toks hadj, fun k => ?_, ?_⟩
  · rw [← List.map_drop]
    obtain ⟨h1, h2⟩ := lead_sum (pat.drop k)
    have h3 := sum_len4 _ h1
    rw [List.length_drop] at h2
    rw [join_len]
    omega
  · rw [jl_cut C, join_len, List.map_map]
    have : ∀ ls : List (List Nat), (ls.map ((fun x : Str => x.length) ∘ S)).sum = ls.flatten.length := by
      intro ls
      induction ls with
      | nil => rfl
      | cons x r ih => rw [List.flatten_cons, List.length_append, ← ih, List.map_cons, List.sum_cons, Function.comp, S_len]
    rw [this, flat_cut]
    omega

/-! the two replacements -/
theorem rep2_app {q : Nat} {z : List Nat} (hq : q ≠ 92) : ∀ {b : List Nat} (l : List Nat), b.getLast? ≠ some 92 → rep2 q z (b ++ l) = rep2 q z b ++ rep2 q z l
  | [], l, _ => rfl
  | [x], l, h => by
    have hx : x ≠ 92 := fun e => h (by rw [e]; rfl)
    cases l with
    | nil => simp [rep2]
    | cons y r =>
      show rep2 q z (x :: y :: r) = [x] ++ _
      rw [rep2_cons, if_neg (fun e => hx e.1)]; rfl
  | x :: y :: r, l, h => by
    have h' : (y :: r).getLast? ≠ some 92 := by simpa [List.getLast?_cons_cons] using h
    show rep2 q z (x :: y :: (r ++ l)) = _
    rw [rep2_cons, rep2_cons]
    by_cases hc : x = 92 ∧ y = q
    · rw [if_pos hc, if_pos hc]
      have hr : r.getLast? ≠ some 92 := by
        cases r with
        | nil => simp
        | cons a r => simpa [List.getLast?_cons_cons] using h'
      rw [rep2_app hq (b := r) l hr, List.append_assoc]
    · rw [if_neg hc, if_neg hc]
      have := rep2_app hq (z := z) (b := y :: r) l h'
      rw [show y :: (r ++ l) = (y :: r) ++ l from rfl, this]; rfl
theorem last_flat {e : Nat → List Nat} (he : ∀ c, (e c).getLast? ≠ some 92 ∧ e c ≠ []) : ∀ s : List Nat, (s.flatMap e).getLast? ≠ some 92
  | [] => by simp
  | c :: s => by
    rw [List.flatMap_cons]
    cases hs : s.flatMap e with
    | nil => rw [List.append_nil]; exact (he c).1
    | cons a r =>
      rw [List.getLast?_append, ← hs]
      have := last_flat he s
      cases hq : (s.flatMap e).getLast? with
      | none => rw [hs] at hq; simp at hq
      | some x => rw [hq] at this; exact this
theorem rep2_flat {q : Nat} {z : List Nat} (hq : q ≠ 92) {e : Nat → List Nat} (he : ∀ c, (e c).getLast? ≠ some 92 ∧ e c ≠ []) : ∀ s : List Nat, rep2 q z (s.flatMap e) = s.flatMap fun c => rep2 q z (e c)
  | [] => rfl
  | c :: s => by rw [List.flatMap_cons, List.flatMap_cons, rep2_app hq _ (he c).1, rep2_flat hq he s]
theorem rep2_rule {q : Nat} {z : List Nat} (hq : q ≠ 92) {e : Nat → List Nat} (he : ∀ c, (e c).getLast? ≠ some 92 ∧ e c ≠ []) (r0 : List Nat) (mid : List (List Nat)) (rl : List Nat) :
    rep2 q z (ruleL e r0 mid rl) = ruleL (fun c => rep2 q z (e c)) r0 mid rl := by
  have hg : ∀ mid : List (List Nat), ∀ l, rep2 q z (mid.flatMap (grp e) ++ l) = mid.flatMap (grp fun c => rep2 q z (e c)) ++ rep2 q z l := by
    intro mid
    induction mid with
    | nil => intro l; rfl
    | cons s m ih =>
      intro l
      have e1 : rep2 q z (grp e s) = grp (fun c => rep2 q z (e c)) s := by
        unfold grp
        rw [List.append_assoc, rep2_app hq _ (by decide), rep2_app hq _ (last_flat he s), rep2_flat hq he]
        simp [rep2]
      rw [List.flatMap_cons, List.append_assoc, rep2_app hq _ (by unfold grp; rw [List.getLast?_concat]; decide), ih, e1, List.flatMap_cons, List.append_assoc]
  unfold ruleL
  rw [List.append_assoc, List.append_assoc, rep2_app hq _ (last_flat he r0), hg, rep2_app hq _ (by decide), rep2_flat hq he, rep2_flat hq he]
  simp [rep2]
theorem rule_congr {e e' : Nat → List Nat} (h : ∀ x ∈ pat, x ≠ 42 → e x = e' x) (C : Cut pat r0 mid rl) : ruleL e r0 mid rl = ruleL e' r0 mid rl := by
  obtain ⟨h0, hm, hl⟩ := C.sub
  have fl : ∀ s : List Nat, (∀ x ∈ s, x ∈ pat) → 42 ∉ s → s.flatMap e = s.flatMap e' := by
    intro s
    induction s with
    | nil => intro _ _; rfl
    | cons c s ih =>
      intro h1 h2
      rw [List.flatMap_cons, List.flatMap_cons, ih (fun x hx => h1 x (List.mem_cons_of_mem _ hx)) (fun q => h2 (List.mem_cons_of_mem _ q)), h c (h1 c List.mem_cons_self) (fun q => h2 (by rw [q]; exact List.mem_cons_self))]
  have fg : mid.flatMap (grp e) = mid.flatMap (grp e') := by
    rw [List.flatMap_def, List.flatMap_def]
    congr 1
    refine List.map_congr_left fun s hs => ?_
    unfold grp
    rw [fl s (hm s hs) (C.fm s hs)]
  unfold ruleL
  rw [fl r0 h0 C.f0, fl rl hl C.fl, fg]
theorem Ec_last (c : Nat) (h : c ≠ 92) : (Ec c).getLast? ≠ some 92 ∧ Ec c ≠ [] := by
  unfold Ec
  split
  · simp [h]
  · simp [h]
noncomputable def E0 (c : Nat) : List Nat := if c = 92 then [0] else Ec c
theorem E0_ok (c : Nat) : (E0 c).getLast? ≠ some 92 ∧ E0 c ≠ [] := by
  unfold E0
  split
  · simp
  · rename_i h; exact Ec_last c h
noncomputable def E1 (c : Nat) : List Nat := if c = 63 then [91, 63, 93] else E0 c
theorem E1_ok (c : Nat) : (E1 c).getLast? ≠ some 92 ∧ E1 c ≠ [] := by
  unfold E1
  split
  · simp
  · exact E0_ok c
theorem step1 : ∀ c ∈ Al, rep2 63 [91, 63, 93] (E0 c) = E1 c := by decide +kernel
theorem step2 : ∀ c ∈ Al, rep2 91 [91, 92, 91, 93] (E1 c) = Eb c := by decide +kernel
theorem step0 : ∀ c ∈ Al, Ec c = E0 c := by decide +kernel
theorem due_cut (C : Cut pat r0 mid rl) (hA : ∀ c ∈ pat, c ∈ Al) : dueN (S (ruleL Ec r0 mid rl)) = S ([40, 63, 115, 58] ++ ruleL Eb r0 mid rl ++ [41, 92, 90]) ∧
    Txt.replace (S (ruleL Ec r0 mid rl)) "\\?" "[?]" = S (ruleL E1 r0 mid rl) ∧ Txt.replace (Txt.replace (S (ruleL Ec r0 mid rl)) "\\?" "[?]") "\\[" "[\\[]" = S (ruleL Eb r0 mid rl) := by
  have a1 : Txt.replace (S (ruleL Ec r0 mid rl)) "\\?" "[?]" = S (ruleL E1 r0 mid rl) := by
    rw [show ("\\?" : Str) = S [92, 63] by decide +kernel, show ("[?]" : Str) = S [91, 63, 93] by decide +kernel, replace_two _ _ _ (by decide),
      rule_congr (e := Ec) (e' := E0) (fun x hx _ => step0 x (hA x hx)) C, rep2_rule (by decide) E0_ok, rule_congr (e' := E1) (fun x hx _ => step1 x (hA x hx)) C]
  have a2 : Txt.replace (S (ruleL E1 r0 mid rl)) "\\[" "[\\[]" = S (ruleL Eb r0 mid rl) := by
    rw [show ("\\[" : Str) = S [92, 91] by decide +kernel, show ("[\\[]" : Str) = S [91, 92, 91, 93] by decide +kernel, replace_two _ _ _ (by decide),
      rep2_rule (by decide) E1_ok, rule_congr (e' := Eb) (fun x hx _ => step2 x (hA x hx)) C]
  refine ⟨?_, a1, by rw [a1, a2]⟩
  unfold dueN
  rw [a1, a2, show ("(?s:" : Str) = S [40, 63, 115, 58] by decide +kernel, show (")\\Z" : Str) = S [41, 92, 90] by decide +kernel, S_app, S_app]
theorem due_join (C : Cut pat r0 mid rl) (hA : ∀ c ∈ pat, c ∈ Al) : joinTok (pat.map tokc) = dueN (S (ruleL Ec r0 mid rl)) := by
  rw [joinTok_cut C, (due_cut C hA).1]
end
/-! the runs that are read of a rule -/
theorem open_S : ("(?>.*?" : Str) = S [40, 63, 62, 46, 42, 63] := by decide +kernel
theorem star_S : (".*" : Str) = S [46, 42] := by decide +kernel
theorem rb1_ne {a : Nat} (h : a ≠ 40) (r : List Nat) (st : Int) : rb1 (a :: r) st = false := by
  unfold rb1
  rw [open_S, S_beq, List.take_succ_cons]
  have : ((a :: r.take 5) == [40, 63, 62, 46, 42, 63]) = false := by
    rw [beq_eq_false_iff_ne]
    intro e; exact h (List.cons.inj e).1
  rw [this]; rfl
theorem rb3_ne {a : Nat} (h : a ≠ 46) (r : List Nat) (st : Int) : rb3 (a :: r) st = false := by
  unfold rb3
  rw [star_S, S_beq, List.take_succ_cons]
  have : ((a :: r.take 1) == [46, 42]) = false := by
    rw [beq_eq_false_iff_ne]
    intro e; exact h (List.cons.inj e).1
  rw [this]; rfl
theorem rb2_ne {a : Nat} (h : a ≠ 41) (st : Int) : rb2 a st = false := by
  unfold rb2
  rw [show (")" : Str) = ch 41 by decide +kernel, ch_eq]
  have : (a == 41) = false := by rw [beq_eq_false_iff_ne]; exact h
  rw [this]; rfl
theorem rb4_ne {a : Nat} (h : a ≠ 92) (r : List Nat) (st : Int) : rb4 a r st = false := by
  unfold rb4
  rw [show ("\\" : Str) = ch 92 by decide +kernel, ch_eq]
  have : (a == 92) = false := by rw [beq_eq_false_iff_ne]; exact h
  rw [this]; rfl
theorem abs_ok : ∀ c ∈ [97, 98, 47], Txt.contains "ab/" (ch c) = true := by decide +kernel
theorem esc_ok2 : ∀ c ∈ [63, 91, 46, 43], ([".", "?", "[", "+"] : List Str).contains (S [c]) = true := by decide +kernel
theorem al_cases {c : Nat} (h : c ∈ Al) (h2 : c ≠ 42) : (c ∈ [97, 98, 47] ∧ Ec c = [c]) ∨ (c ∈ [63, 91, 46, 43] ∧ Ec c = [92, c]) := by
  have : ∀ c ∈ Al, c ≠ 42 → (c ∈ [97, 98, 47] ∧ Ec c = [c]) ∨ (c ∈ [63, 91, 46, 43] ∧ Ec c = [92, c]) := by decide +kernel
  exact this c h h2
theorem rloop_cons (k : Nat) (c : Nat) (r : List Nat) (st : Int) (runs : List Str) : rloop (k + 1) (c :: r) st runs =
    if rb1 (c :: r) st = true then rloop k ((c :: r).drop 6) 1 (runs ++ [emp])
    else if rb2 c st = true then rloop k r 2 runs
    else if rb3 (c :: r) st = true then rloop k ((c :: r).drop 2) 3 (runs ++ [emp])
    else if rb4 c (c :: r) st = true then rloop k ((c :: r).drop 2) st (runs.dropLast ++ [lastS runs ++ S (r.take 1)])
    else if rb5 c st = true then rloop k r st (runs.dropLast ++ [lastS runs ++ ch c])
    else [] := by rw [rloop]
theorem run_char {c : Nat} (h : c ∈ Al) (h2 : c ≠ 42) {st : Int} (hst : (st != 2) = true) (k : Nat) (rest : List Nat) (rs : List Str) (x : Str) :
    rloop (k + 1) (Ec c ++ rest) st (rs ++ [x]) = rloop k rest st (rs ++ [x ++ ch c]) := by
  rcases al_cases h h2 with ⟨hc, he⟩ | ⟨hc, he⟩
  · rw [he]
    have n1 : c ≠ 40 ∧ c ≠ 41 ∧ c ≠ 46 ∧ c ≠ 92 := by
      have : ∀ c ∈ [97, 98, 47], c ≠ 40 ∧ c ≠ 41 ∧ c ≠ 46 ∧ c ≠ 92 := by decide
      exact this c hc
    have h5 : rb5 c st = true := by unfold rb5; rw [abs_ok c hc, hst]; rfl
    show rloop (k + 1) (c :: rest) st (rs ++ [x]) = _
    rw [rloop_cons, rb1_ne n1.1, rb2_ne n1.2.1, rb3_ne n1.2.2.1, rb4_ne n1.2.2.2, h5, lastS_app, List.dropLast_concat]
    simp
  · rw [he]
    have h4 : rb4 92 (92 :: c :: rest) st = true := by
      unfold rb4
      have e1 : (ch 92 == ("\\" : Str)) = true := by decide +kernel
      rw [e1, hst]
      show (true && (([".", "?", "[", "+"] : List Str).contains (S [c]) && (true && true))) = true
      rw [esc_ok2 c hc]; rfl
    show rloop (k + 1) (92 :: c :: rest) st (rs ++ [x]) = _
    rw [rloop_cons, rb1_ne (by decide), rb2_ne (by decide), rb3_ne (by decide), h4, lastS_app, List.dropLast_concat]
    simp
    rfl
theorem run_seg : ∀ (s : List Nat), (∀ c ∈ s, c ∈ Al ∧ c ≠ 42) → ∀ {st : Int}, (st != 2) = true → ∀ (k : Nat) (rest : List Nat) (rs : List Str) (x : List Nat),
    rloop (k + s.length) (s.flatMap Ec ++ rest) st (rs ++ [S x]) = rloop k rest st (rs ++ [S (x ++ s)])
  | [], _, st, _, k, rest, rs, x => by simp
  | c :: s, h, st, hst, k, rest, rs, x => by
    obtain ⟨h1, h2⟩ := h c List.mem_cons_self
    rw [List.flatMap_cons, List.append_assoc, List.length_cons, ← Nat.add_assoc, run_char h1 h2 hst, ch_S, S_app, run_seg s (fun c hc => h c (List.mem_cons_of_mem _ hc)) hst, List.append_assoc]; rfl
theorem run_grp {s : List Nat} (h : ∀ c ∈ s, c ∈ Al ∧ c ≠ 42) {st : Int} (hst : st = 0 ∨ st = 2) (k : Nat) (rest : List Nat) (rs : List Str) :
    rloop (k + (s.length + 2)) (grp Ec s ++ rest) st rs = rloop k rest 2 (rs ++ [S s]) := by
  have e : grp Ec s ++ rest = 40 :: ([63, 62, 46, 42, 63] ++ (s.flatMap Ec ++ (41 :: rest))) := by simp [grp]
  have h1 : rb1 (40 :: ([63, 62, 46, 42, 63] ++ (s.flatMap Ec ++ (41 :: rest)))) st = true := by
    unfold rb1
    have : S ((40 :: ([63, 62, 46, 42, 63] ++ (s.flatMap Ec ++ (41 :: rest)))).take 6) = "(?>.*?" := by rw [open_S]; rfl
    rw [this]
    rcases hst with rfl | rfl <;> decide +kernel
  rw [e, show k + (s.length + 2) = ((k + 1) + s.length) + 1 by omega]
  rw [rloop_cons, if_pos h1]
  show rloop (k + 1 + s.length) (s.flatMap Ec ++ (41 :: rest)) 1 (rs ++ [emp]) = _
  have e2 : emp = S [] := emp_S
  rw [e2, run_seg s h (by decide), List.nil_append]
  rw [rloop_cons, rb1_ne (by decide), if_neg (by decide), show rb2 41 1 = true by decide +kernel, if_pos rfl]
theorem run_mid : ∀ (mid : List (List Nat)), (∀ s ∈ mid, ∀ c ∈ s, c ∈ Al ∧ c ≠ 42) → ∀ {st : Int}, (st = 0 ∨ st = 2) → ∀ (k : Nat) (rest : List Nat) (rs : List Str),
    ∃ st', (st' = 0 ∨ st' = 2) ∧ rloop (k + (mid.map fun s => s.length + 2).sum) (mid.flatMap (grp Ec) ++ rest) st rs = rloop k rest st' (rs ++ mid.map S)
  | [], _, st, hst, k, rest, rs => ⟨st, hst, by simp⟩
  | s :: mid, h, st, hst, k, rest, rs => by
    obtain ⟨st', h1, h2⟩ := run_mid mid (fun s hs => h s (List.mem_cons_of_mem _ hs)) (st := 2) (.inr rfl) k rest (rs ++ [S s])
    refine ⟨st', h1, ?_⟩
    rw [List.map_cons, List.sum_cons, List.flatMap_cons, List.append_assoc, show k + (s.length + 2 + (mid.map fun s => s.length + 2).sum) = (k + (mid.map fun s => s.length + 2).sum) + (s.length + 2) by omega,
      run_grp (h s List.mem_cons_self) hst, h2]
    simp
theorem flat_ge {e : Nat → List Nat} (he : ∀ c, 1 ≤ (e c).length) : ∀ s : List Nat, s.length ≤ (s.flatMap e).length
  | [] => Nat.le_refl _
  | c :: s => by
    have := flat_ge he s
    have := he c
    rw [List.flatMap_cons, List.length_append, List.length_cons]; omega
theorem Ec_ge (c : Nat) : 1 ≤ (Ec c).length := by unfold Ec; split <;> simp
theorem runs_cut {pat r0 rl : List Nat} {mid : List (List Nat)} (C : Cut pat r0 mid rl) (hA : ∀ c ∈ pat, c ∈ Al) : runsN (ruleL Ec r0 mid rl) = S r0 :: (mid.map S ++ [S rl]) := by
  obtain ⟨h0, hm, hl⟩ := C.sub
  have a0 : ∀ c ∈ r0, c ∈ Al ∧ c ≠ 42 := fun c h => ⟨hA c (h0 c h), fun e => C.f0 (e ▸ h)⟩
  have am : ∀ s ∈ mid, ∀ c ∈ s, c ∈ Al ∧ c ≠ 42 := fun s hs c h => ⟨hA c (hm s hs c h), fun e => C.fm s hs (e ▸ h)⟩
  have al : ∀ c ∈ rl, c ∈ Al ∧ c ≠ 42 := fun c h => ⟨hA c (hl c h), fun e => C.fl (e ▸ h)⟩
  have g0 := flat_ge Ec_ge r0
  have gl := flat_ge Ec_ge rl
  have gm : ∀ mid : List (List Nat), (mid.map fun s => s.length + 2).sum ≤ (mid.flatMap (grp Ec)).length := by
    intro mid
    induction mid with
    | nil => simp
    | cons s m ih =>
      have := flat_ge Ec_ge s
      rw [List.map_cons, List.sum_cons, List.flatMap_cons, List.length_append]
      unfold grp at ih ⊢
      rw [List.length_append, List.length_append, List.length_cons, List.length_cons, List.length_cons, List.length_cons, List.length_cons, List.length_cons, List.length_nil, List.length_cons, List.length_nil]
      omega
  have gm' := gm mid
  unfold runsN
  obtain ⟨k0, hk0⟩ : ∃ k0, (ruleL Ec r0 mid rl).length = (((k0 + rl.length) + 1) + (mid.map fun s => s.length + 2).sum) + r0.length := by
    refine ⟨(ruleL Ec r0 mid rl).length - (rl.length + 1 + (mid.map fun s => s.length + 2).sum + r0.length), ?_⟩
    have : r0.length + (mid.map fun s => s.length + 2).sum + 2 + rl.length ≤ (ruleL Ec r0 mid rl).length := by
      unfold ruleL
      rw [List.length_append, List.length_append, List.length_append, List.length_cons, List.length_cons, List.length_nil]
      omega
    omega
  have e0 : ([("" : Str)] : List Str) = [] ++ [S []] := by rw [emp_S]; rfl
  rw [hk0, e0]
  unfold ruleL
  rw [List.append_assoc, List.append_assoc, run_seg r0 a0 (by decide), List.nil_append, List.nil_append]
  obtain ⟨st', h1, h2⟩ := run_mid mid am (st := 0) (.inl rfl) (k0 + rl.length + 1) ([46, 42] ++ rl.flatMap Ec) [S r0]
  rw [h2]
  have h3 : rb3 (46 :: 42 :: rl.flatMap Ec) st' = true := by
    unfold rb3
    have : S ((46 :: 42 :: rl.flatMap Ec).take 2) = ".*" := by rw [star_S]; rfl
    rw [this]
    rcases h1 with rfl | rfl <;> decide +kernel
  show rloop (k0 + rl.length + 1) (46 :: 42 :: rl.flatMap Ec) st' ([S r0] ++ mid.map S) = _
  rw [rloop_cons, rb1_ne (by decide), rb2_ne (by decide), h3, if_neg (by decide), if_neg (by decide), if_pos rfl]
  show rloop (k0 + rl.length) (rl.flatMap Ec) 3 ([S r0] ++ mid.map S ++ [emp]) = _
  have e2 : emp = S [] := emp_S
  have := run_seg rl al (st := 3) (by decide) k0 [] ([S r0] ++ mid.map S) []
  rw [List.append_nil] at this
  rw [e2, this, List.nil_append]
  cases k0 <;> simp [rloop]
/-! brackets, and back -/
theorem dress_one : ∀ c ∈ Al, dress1 (ch c) = S (dr c) := by decide +kernel
theorem dress_S {l : List Nat} (h : ∀ c ∈ l, c ∈ Al) : dressN (S l) = S (l.flatMap dr) := by
  unfold dressN
  rw [S_list, List.flatMap_def, ← join0_S, List.map_map]
  congr 1
  exact List.map_congr_left fun c hc => dress_one c (h c hc)
noncomputable def und : List Nat → List Nat
  | [] => []
  | [x] => [x]
  | [x, y] => [x, y]
  | x :: y :: z :: r => if x = 91 then y :: und r else x :: und (y :: z :: r)
theorem und_plain {c : Nat} (h : c ≠ 91) : ∀ r : List Nat, und (c :: r) = c :: und r
  | [] => rfl
  | [y] => rfl
  | y :: z :: r => by rw [und, if_neg h]
theorem und_dr : ∀ l : List Nat, und (l.flatMap dr) = l
  | [] => rfl
  | c :: l => by
    have ih := und_dr l
    rw [List.flatMap_cons]
    unfold dr
    split
    · show und (91 :: c :: 93 :: l.flatMap dr) = _
      rw [und, if_pos rfl, ih]
    · rename_i h
      show und (c :: l.flatMap dr) = _
      rw [und_plain (fun e => h (.inr e)), ih]
/-- the tokens that _translate gives of a dressed text -/
noncomputable def trT (y : Str) : List (Option Str) := (und y.cps.toList).map tokc
theorem trT_S (l : List Nat) : trT (S (l.flatMap dr)) = l.map tokc := by unfold trT; rw [S_list, und_dr]
/-! the path: a row of names -/
theorem splitL_mid (c : Nat) : ∀ (a b : List Nat), splitL c (a ++ c :: b) = splitL c a ++ splitL c b
  | [], b => by
    show splitL c (c :: b) = [[]] ++ splitL c b
    rw [splitL, if_pos rfl]; rfl
  | x :: a, b => by
    have ih := splitL_mid c a b
    have hne := splitL_ne c a
    show splitL c (x :: (a ++ c :: b)) = _
    rw [splitL, splitL, ih]
    split
    · rfl
    · cases h : splitL c a with
      | nil => exact absurd h hne
      | cons s t => rfl
theorem split_sep (c : Nat) (l : List Nat) : Txt.split (S l) (S [c]) = (splitL c l).map S := by
  conv => lhs; rw [← splitL_jl c l]
  exact split_S c (splitL_ne c l) (splitL_free c l)
theorem slS : ("/" : Str) = S [47] := by decide +kernel
noncomputable def dd : Str := ".."
theorem pstep_nodd {acc : List Str} {c : Str} (h : dd ∉ acc) : dd ∉ pstep acc c := by
  unfold pstep
  split
  · exact fun q => h (List.dropLast_subset _ q)
  · rename_i h1
    split
    · intro q
      rcases List.mem_append.mp q with q | q
      · exact h q
      · rw [List.mem_singleton] at q
        exact h1 (by rw [← q]; decide +kernel)
    · exact h
theorem nstep_pstep {acc : List Str} (c : Str) (h : dd ∉ acc) : nstep acc c = pstep acc c := by
  unfold nstep pstep
  by_cases h1 : c = ".."
  · subst h1
    rw [if_neg (by decide +kernel), if_neg, if_pos (by decide +kernel)]
    rintro (q | ⟨_, q⟩)
    · exact q rfl
    · exact h (List.mem_of_getLast? q)
  · have e1 : (c == "..") = false := by rw [beq_eq_false_iff_ne]; exact h1
    rw [e1, if_neg Bool.false_ne_true]
    by_cases h2 : c = "."
    · subst h2
      rw [if_pos (.inr rfl), if_neg (by decide +kernel)]
    · by_cases h3 : c = ""
      · subst h3
        rw [if_pos (.inl (by decide +kernel)), if_neg (by decide +kernel)]
      · have hl : c.length ≠ 0 := fun e => h3 (by
          obtain ⟨⟨l⟩⟩ := c
          have : l = [] := List.eq_nil_of_length_eq_zero (by simpa [Str.length] using e)
          rw [this]; decide +kernel)
        rw [if_neg (fun q => q.elim hl h2), if_pos (.inl h1), if_pos (by simp [h2, h3])]
theorem nfold_pfold : ∀ (cs : List Str) (acc : List Str), dd ∉ acc → cs.foldl nstep acc = cs.foldl pstep acc
  | [], _, _ => rfl
  | c :: cs, acc, h => by
    rw [List.foldl_cons, List.foldl_cons, nstep_pstep c h]
    exact nfold_pfold cs _ (pstep_nodd h)
theorem nfold_eq (cs : List Str) : nfold cs = cs.foldl pstep [] := nfold_pfold cs [] (fun h => nomatch h)
noncomputable def pl (l : List Nat) (acc : List Str) : List Str := ((splitL 47 l).map S).foldl pstep acc
theorem pstep_emp (acc : List Str) : pstep acc (S []) = acc := by
  unfold pstep
  rw [if_neg (by decide +kernel), if_neg (by decide +kernel)]
theorem pl_nil (acc : List Str) : pl [] acc = acc := pstep_emp acc
theorem pl_mid (a b : List Nat) (acc : List Str) : pl (a ++ 47 :: b) acc = pl b (pl a acc) := by
  unfold pl
  rw [splitL_mid, List.map_append, List.foldl_append]
theorem pl_slash (b : List Nat) (acc : List Str) : pl (47 :: b) acc = pl b acc := by
  have := pl_mid [] b acc
  rw [pl_nil] at this; exact this
/-- words that are joined: at most one slash ahead -/
noncomputable def WordOk (b : List Nat) : Prop := ∀ r, b ≠ 47 :: 47 :: r
structure WSt (x : Str) (r : List Nat) (pile : List Str) (m : Nat) : Prop where
  eq : x = S (47 :: r)
  hd : r.head? ≠ some 47
  fold : pl r [] = pile
  len : r.length ≤ m
theorem last_slash {r : List Nat} (h : (47 :: r).getLast? = some 47) : r = [] ∨ ∃ r1, r = r1 ++ [47] := by
  cases r with
  | nil => exact .inl rfl
  | cons a t =>
    right
    rw [List.getLast?_cons_cons] at h
    refine ⟨(a :: t).dropLast, ?_⟩
    rw [List.getLast?_eq_some_getLast (by simp)] at h
    conv => lhs; rw [← List.dropLast_concat_getLast (l := a :: t) (by simp)]
    rw [Option.some.inj h]
theorem join_step {x : Str} {r : List Nat} {pile : List Str} {m : Nat} (W : WSt x r pile m) {b : List Nat} (hb : WordOk b) (hbl : b.length ≤ 3) :
    ∃ r', WSt (joinN x (S b)) r' ((Txt.split (S b) "/").foldl pstep (if (Txt.slice (S b) none (some 1) == "/") = true then [] else pile)) (m + 4) := by
  obtain ⟨rfl, h1, h2, h3⟩ := W
  have hs1 : Txt.slice (S b) none (some 1) = S (b.take 1) := by
    have := slice_to (S b) 1
    rw [S_list] at this; exact this
  have hspl : Txt.split (S b) "/" = (splitL 47 b).map S := by rw [slS, split_sep]
  rw [hs1, hspl, slS, S_beq]
  have hst : Txt.startswith (S b) (S [47]) = (b.head? == some 47) := starts_S b 47
  have hen : Txt.endswith (S (47 :: r)) (S [47]) = ((47 :: r).getLast? == some 47) := ends_S _ 47
  have hlen : ((S (47 :: r)).length != 0) = true := by rw [S_len]; rfl
  have hJ : joinN (S (47 :: r)) (S b) = if (b.head? == some 47) = true then S b else if ((47 :: r).getLast? == some 47) = true then S (47 :: r ++ b) else S (47 :: r ++ 47 :: b) := by
    unfold joinN
    rw [slS, hst, hen, hlen, S_app, S_app, S_app]
    simp
  rw [hJ]
  have hfold : ∀ acc, ((splitL 47 b).map S).foldl pstep acc = pl b acc := fun _ => rfl
  rw [hfold]
  by_cases hb0 : b.head? = some 47
  · obtain ⟨b', rfl⟩ : ∃ b', b = 47 :: b' := by
      cases b with
      | nil => cases hb0
      | cons a t => cases hb0; exact ⟨t, rfl⟩
    rw [if_pos (by rw [hb0]; rfl), if_pos (by simp), pl_slash]
    refine ⟨b', rfl, fun e => ?_, rfl, ?_⟩
    · cases b' with
      | nil => cases e
      | cons a t => cases e; exact hb t rfl
    · rw [List.length_cons] at hbl; omega
  · have hb1 : (b.take 1 == [47]) = false := by
      rw [beq_eq_false_iff_ne]
      intro e
      cases b with
      | nil => cases e
      | cons a t => exact hb0 (by rw [List.take_succ_cons] at e; rw [(List.cons.inj e).1]; rfl)
    rw [if_neg (by simpa using hb0), hb1, if_neg Bool.false_ne_true]
    by_cases he : (47 :: r).getLast? = some 47
    · rw [if_pos (by rw [he]; rfl)]
      rcases last_slash he with rfl | ⟨r1, rfl⟩
      · refine ⟨b, rfl, hb0, ?_, by omega⟩
        rw [pl_nil] at h2
        rw [h2]
      · refine ⟨r1 ++ [47] ++ b, rfl, ?_, ?_, ?_⟩
        · cases r1 with
          | nil => exact absurd rfl h1
          | cons a t => exact h1
        · rw [List.append_assoc, List.singleton_append, pl_mid]
          have e1 : pl (r1 ++ [47]) [] = pl r1 [] := by rw [pl_mid, pl_nil]
          rw [← h2, e1]
        · rw [List.length_append] ; omega
    · rw [if_neg (by simpa using he)]
      refine ⟨r ++ 47 :: b, rfl, ?_, ?_, ?_⟩
      · cases r with
        | nil => exact absurd rfl he
        | cons a t => exact h1
      · rw [pl_mid, h2]
      · rw [List.length_append, List.length_cons]; omega
theorem whole_fold : ∀ (bs : List (List Nat)), (∀ b ∈ bs, WordOk b ∧ b.length ≤ 3) → ∀ {x : Str} {r : List Nat} {pile : List Str} {m : Nat}, WSt x r pile m →
    ∃ r', WSt ((bs.map S).foldl joinN x) r' ((bs.map S).foldl (fun pile part => (Txt.split part "/").foldl pstep (if (Txt.slice part none (some 1) == "/") = true then [] else pile)) pile) (m + 4 * bs.length)
  | [], _, x, r, pile, m, W => ⟨r, W⟩
  | b :: bs, h, x, r, pile, m, W => by
    obtain ⟨h1, h2⟩ := h b List.mem_cons_self
    obtain ⟨r', W'⟩ := join_step W h1 h2
    obtain ⟨r'', W''⟩ := whole_fold bs (fun b hb => h b (List.mem_cons_of_mem _ hb)) W'
    refine ⟨r'', ?_⟩
    rw [List.map_cons, List.foldl_cons, List.foldl_cons, List.length_cons]
    rw [show m + 4 * (bs.length + 1) = m + 4 + 4 * bs.length by omega]
    exact W''
theorem whole_st (bs : List (List Nat)) (h : ∀ b ∈ bs, WordOk b ∧ b.length ≤ 3) : ∃ r, WSt (wholeN (bs.map S)) r (pileN (bs.map S)) (4 * bs.length) := by
  obtain ⟨r, W⟩ := whole_fold bs h (x := "/") (r := []) (pile := []) (m := 0) ⟨slS, by simp, pl_nil [], Nat.le_refl _⟩
  rw [Nat.zero_add] at W
  exact ⟨r, W⟩
/-- the names that can lie on the pile -/
noncomputable def Nms : List (List Nat) := [[97], [42], [98, 42], [97, 63], [91, 98], [42, 46, 97], [98], [42, 43, 42], [97, 42, 98]]
noncomputable def allW : List Str := lastW :: "" :: wordsN
theorem word_in (d : Int) : wordN d ∈ allW := by
  unfold wordN allW
  cases h : wordsN[(d.fmod 12).toNat]? with
  | none => simp
  | some w => exact List.mem_cons_of_mem _ (List.mem_cons_of_mem _ (List.mem_of_getElem? h))
theorem parts_in (ds : List Int) : ∀ w ∈ partsN ds, w ∈ allW := by
  intro w h
  unfold partsN at h
  rcases List.mem_append.mp h with h | h
  · obtain ⟨d, _, rfl⟩ := List.mem_map.mp h
    exact word_in d
  · rw [List.mem_singleton.mp h]; exact List.mem_cons_self
theorem words_ok : ∀ w ∈ allW, w.cps.toList.take 2 ≠ [47, 47] ∧ w.cps.toList.length ≤ 3 ∧ (Txt.split w "/").length ≤ 2 ∧ w.length ≤ 3 := by decide +kernel
theorem words_pieces : ∀ w ∈ allW, ∀ c ∈ Txt.split w "/", c ∈ Nms.map S ∨ c = "" ∨ c = "." ∨ c = ".." := by decide +kernel
theorem wordOk_of {b : List Nat} (h : b.take 2 ≠ [47, 47]) : WordOk b := by
  intro r e
  rw [e] at h
  exact h rfl
noncomputable def PileOk (pile : List Str) : Prop := ∀ x ∈ pile, x ∈ Nms.map S
theorem pstep_ok {pile : List Str} {c : Str} (h : PileOk pile) (hc : c ∈ Nms.map S ∨ c = "" ∨ c = "." ∨ c = "..") : PileOk (pstep pile c) := by
  unfold pstep
  split
  · exact fun x hx => h x (List.dropLast_subset _ hx)
  · rename_i h1
    split
    · rename_i h2
      intro x hx
      rcases List.mem_append.mp hx with hx | hx
      · exact h x hx
      · rw [List.mem_singleton.mp hx]
        rcases hc with hc | hc | hc | hc
        · exact hc
        · rw [hc] at h2; exact absurd h2 (by decide +kernel)
        · rw [hc] at h2; exact absurd h2 (by decide +kernel)
        · rw [hc] at h1; exact absurd (by decide +kernel) h1
    · exact h
theorem pfold_ok : ∀ (cs : List Str) (pile : List Str), PileOk pile → (∀ c ∈ cs, c ∈ Nms.map S ∨ c = "" ∨ c = "." ∨ c = "..") → PileOk (cs.foldl pstep pile)
  | [], pile, h, _ => h
  | c :: cs, pile, h, hc => pfold_ok cs _ (pstep_ok h (hc c List.mem_cons_self)) fun d hd => hc d (List.mem_cons_of_mem _ hd)
theorem pileF_ok : ∀ (ps : List Str) (pile : List Str) (m : Nat), (∀ w ∈ ps, w ∈ allW) → PileOk pile → pile.length ≤ m →
    PileOk (ps.foldl (fun pile part => (Txt.split part "/").foldl pstep (if (Txt.slice part none (some 1) == "/") = true then [] else pile)) pile) ∧
    (ps.foldl (fun pile part => (Txt.split part "/").foldl pstep (if (Txt.slice part none (some 1) == "/") = true then [] else pile)) pile).length ≤ m + 2 * ps.length
  | [], pile, m, _, h, hl => ⟨h, by simpa using hl⟩
  | w :: ps, pile, m, hw, h, hl => by
    have hin := hw w List.mem_cons_self
    have h0 : PileOk (if (Txt.slice w none (some 1) == "/") = true then [] else pile) ∧ (if (Txt.slice w none (some 1) == "/") = true then [] else pile).length ≤ m := by
      split
      · exact ⟨fun x hx => (nomatch hx), Nat.zero_le _⟩
      · exact ⟨h, hl⟩
    have h1 := pfold_ok (Txt.split w "/") _ h0.1 (words_pieces w hin)
    have h2 := pfold_len (Txt.split w "/") (if (Txt.slice w none (some 1) == "/") = true then [] else pile)
    have h3 := (words_ok w hin).2.2.1
    have := pileF_ok ps _ (m + 2) (fun v hv => hw v (List.mem_cons_of_mem _ hv)) h1 (by omega)
    rw [List.foldl_cons, List.length_cons]
    exact ⟨this.1, by have := this.2; omega⟩
structure Path (ds : List Int) (Q : List (List Nat)) (r : List Nat) : Prop where
  pile : pileN (partsN ds) = Q.map S
  good : ∀ q ∈ Q, q ∈ Nms
  len : Q.length ≤ 14
  whole : wholeN (partsN ds) = S (47 :: r)
  hd : r.head? ≠ some 47
  fold : pl r [] = Q.map S
  rlen : r.length ≤ 28
theorem parts_S (ds : List Int) : ∃ bs : List (List Nat), partsN ds = bs.map S ∧ (∀ b ∈ bs, WordOk b ∧ b.length ≤ 3) ∧ bs.length = ds.length + 1 := by
  refine ⟨(partsN ds).map fun x => x.cps.toList, map_S_of _, fun b hb => ?_, ?_⟩
  · obtain ⟨w, hw, rfl⟩ := List.mem_map.mp hb
    obtain ⟨h1, h2, _⟩ := words_ok w (parts_in ds w hw)
    exact ⟨wordOk_of h1, h2⟩
  · unfold partsN; simp
theorem path_of {ds : List Int} (h : ds.length ≤ 6) : ∃ Q r, Path ds Q r := by
  obtain ⟨bs, h1, h2, h3⟩ := parts_S ds
  obtain ⟨r, W⟩ := whole_st bs h2
  rw [← h1] at W
  obtain ⟨p1, p2⟩ := pileF_ok (partsN ds) [] 0 (parts_in ds) (fun x hx => (nomatch hx)) (Nat.le_refl _)
  have hP : partsN ds = partsN ds := rfl
  have hl : (partsN ds).length = ds.length + 1 := by unfold partsN; simp
  refine ⟨(pileN (partsN ds)).map fun x => x.cps.toList, r, map_S_of _, fun q hq => ?_, ?_, W.eq, W.hd, ?_, ?_⟩
  · obtain ⟨x, hx, rfl⟩ := List.mem_map.mp hq
    obtain ⟨q, hq', rfl⟩ := List.mem_map.mp (p1 x hx)
    rw [S_list]; exact hq'
  · rw [List.length_map]
    have : (pileN (partsN ds)).length ≤ 0 + 2 * (partsN ds).length := p2
    omega
  · rw [← map_S_of]; exact W.fold
  · have := W.len; omega
theorem whole_short (ds : List Int) (i : Nat) (h : ds.length ≤ 6) : (wholeN ((partsN ds).take i)).length ≤ 100000 := by
  obtain ⟨bs, h1, h2, h3⟩ := parts_S ds
  obtain ⟨r, W⟩ := whole_st (bs.take i) (fun b hb => h2 b (List.mem_of_mem_take hb))
  rw [h1, ← List.map_take, W.eq, S_len, List.length_cons]
  have := W.len
  rw [List.length_take] at this
  omega

/-! the fronts of the row of names -/
noncomputable def hdL (Q : List (List Nat)) : List Nat := 47 :: jl [47] Q
theorem nm_ok : ∀ q ∈ Nms, 47 ∉ q ∧ q ≠ [] ∧ q.length ≤ 3 ∧ (∀ c ∈ q, c ∈ Al) := by decide
theorem jl_len {Q : List (List Nat)} (h : ∀ q ∈ Q, q.length ≤ 3) : (jl [47] Q).length ≤ 4 * Q.length := by
  induction Q with
  | nil => simp [jl]
  | cons q Q ih =>
    have h1 := h q List.mem_cons_self
    have h2 := ih fun q hq => h q (List.mem_cons_of_mem _ hq)
    cases Q with
    | nil => show q.length ≤ _; rw [List.length_cons]; omega
    | cons u t =>
      rw [jl_cons (by simp), List.length_append, List.length_append, List.length_cons (a := q), List.length_singleton]
      omega
theorem jl_snoc {sep q : List Nat} : ∀ {Q : List (List Nat)}, Q ≠ [] → jl sep (Q ++ [q]) = jl sep Q ++ (sep ++ q)
  | [], h => absurd rfl h
  | [x], _ => by show x ++ sep ++ q = x ++ (sep ++ q); rw [List.append_assoc]
  | x :: y :: r, _ => by
    have ih := jl_snoc (sep := sep) (q := q) (Q := y :: r) (by simp)
    show x ++ sep ++ jl sep ((y :: r) ++ [q]) = x ++ sep ++ jl sep (y :: r) ++ (sep ++ q)
    rw [ih, List.append_assoc (x ++ sep)]
section
variable {ds : List Int} {Q : List (List Nat)} {r : List Nat}
theorem Path.split (P : Path ds Q r) : nfold (Txt.split (Txt.slice (wholeN (partsN ds)) (some 1) none) "/") = Q.map S := by
  have e : Txt.slice (wholeN (partsN ds)) (some 1) none = S r := by
    have := slice_from (S (47 :: r)) 1
    rw [S_list] at this
    rw [P.whole]; exact this
  rw [e, nfold_eq, slS, split_sep]; exact P.fold
theorem Path.norm (P : Path ds Q r) : normN (wholeN (partsN ds)) = S (hdL Q) := by
  unfold normN
  rw [P.split, slS, join_S, S_app]; rfl
theorem Path.normOk (P : Path ds Q r) : NormOk (wholeN (partsN ds)) := by
  have e : Txt.slice (wholeN (partsN ds)) (some 1) none = S r := by
    have := slice_from (S (47 :: r)) 1
    rw [S_list] at this
    rw [P.whole]; exact this
  have hq : ∀ q ∈ Q, q.length ≤ 3 := fun q hq => (nm_ok q (P.good q hq)).2.2.1
  have hl := P.rlen
  have hsum : ∀ Q : List (List Nat), (∀ q ∈ Q, q.length ≤ 3) → ((Q.map S).map (·.length)).sum ≤ 3 * Q.length := by
    intro Q
    induction Q with
    | nil => intro _; simp
    | cons q Q ih =>
      intro h
      have := ih fun q hq => h q (List.mem_cons_of_mem _ hq)
      have := h q List.mem_cons_self
      rw [List.map_cons, List.map_cons, List.sum_cons, S_len, List.length_cons]; omega
  have hs := hsum Q hq
  have hjl := jl_len hq
  have hQ := P.len
  have hspl : Txt.split (S r) "/" = (splitL 47 r).map S := by rw [slS, split_sep]
  have hsl : ∀ l : List Nat, (splitL 47 l).length ≤ l.length + 1 := by
    intro l
    induction l with
    | nil => exact Nat.le_refl _
    | cons x t ih =>
      unfold splitL
      split
      · rw [List.length_cons, List.length_cons]; omega
      · split
        · simp
        · rename_i u v h
          rw [h, List.length_cons] at ih
          rw [List.length_cons, List.length_cons]; omega
  have hjle : ∀ (sep : List Nat) (ls : List (List Nat)), ∀ s ∈ ls, s.length ≤ (jl sep ls).length := by
    intro sep ls
    induction ls with
    | nil => intro s h; cases h
    | cons y t ih =>
      intro s h
      cases t with
      | nil => rw [List.mem_singleton.mp h]; exact Nat.le_refl _
      | cons z t =>
        rw [jl_cons (by simp), List.length_append, List.length_append]
        rcases List.mem_cons.mp h with rfl | h
        · omega
        · have := ih s h; omega
  refine ⟨?_, ?_, ?_, ?_, ?_, ?_, ?_, ?_⟩
  · rw [P.whole, S_len, List.length_cons]; omega
  · rw [P.whole, S_len]; rfl
  · have := slice_to (S (47 :: r)) 1
    rw [S_list] at this
    rw [P.whole]
    exact this.trans slS.symm
  · have h2 : Txt.slice (S (47 :: r)) (some 1) (some 2) = S (((47 :: r).drop 1).take 1) := by
      have := slice_nat (S (47 :: r)) 1 2
      rw [S_list] at this; exact this
    have := P.hd
    rw [P.whole, h2, slS]
    unfold bne
    rw [S_beq]
    cases r with
    | nil => rfl
    | cons a t =>
      have ha : a ≠ 47 := fun e => this (by rw [e]; rfl)
      simp [ha]
  · rw [e, hspl, List.length_map]
    have := hsl r
    omega
  · rw [P.split, List.length_map, show ("/" : Str).length = 1 by decide +kernel]
    omega
  · rw [P.split, slS, join_S, S_len]
    omega
  · rw [e, hspl]
    intro c hc
    obtain ⟨s, hs, rfl⟩ := List.mem_map.mp hc
    have := hjle [47] (splitL 47 r) s hs
    rw [splitL_jl] at this
    rw [S_len]; omega
end
theorem jl_last {Q : List (List Nat)} (h : ∀ q ∈ Q, 47 ∉ q ∧ q ≠ []) (hne : Q ≠ []) : ∃ d, (jl [47] Q).getLast? = some d ∧ d ≠ 47 := by
  obtain ⟨Q', q, rfl⟩ : ∃ Q' q, Q = Q' ++ [q] := ⟨Q.dropLast, Q.getLast hne, (List.dropLast_concat_getLast hne).symm⟩
  obtain ⟨h1, h2⟩ := h q (by simp)
  obtain ⟨d, hd⟩ : ∃ d, q.getLast? = some d := ⟨_, List.getLast?_eq_some_getLast h2⟩
  refine ⟨d, ?_, fun e => h1 (e ▸ List.mem_of_getLast? hd)⟩
  cases Q' with
  | nil => exact hd
  | cons u t =>
    rw [jl_snoc (by simp), List.getLast?_append, List.getLast?_append, hd]; rfl
theorem dir_snoc {Q : List (List Nat)} {q : List Nat} (h : ∀ q ∈ Q, 47 ∉ q ∧ q ≠ []) (hq : 47 ∉ q) : dirN (S (hdL (Q ++ [q]))) = S (hdL Q) := by
  unfold dirN
  by_cases hQ : Q = []
  · subst hQ
    have e : hdL ([] ++ [q]) = [] ++ 47 :: q := rfl
    have hr : Txt.rfind (S ([] ++ 47 :: q)) "/" = 0 := by
      have := rfind_S 47 [] q hq
      rw [slS]; exact this
    rw [e, hr]
    have hs : Txt.slice (S ([] ++ 47 :: q)) none (some ((0 : Int) + 1)) = S [47] := by
      have := slice_to (S ([] ++ 47 :: q)) 1
      rw [S_list] at this; exact this
    rw [hs]
    have hm : Txt.mul "/" ((S [47]).length : Nat) = S [47] := by rw [slS, S_len]; exact mul_S 47 1
    dsimp only
    rw [hm]
    rw [if_neg (by simp)]; rfl
  · have e : hdL (Q ++ [q]) = (47 :: jl [47] Q) ++ 47 :: q := by unfold hdL; rw [jl_snoc hQ]; rfl
    have hr : Txt.rfind (S ((47 :: jl [47] Q) ++ 47 :: q)) "/" = ((47 :: jl [47] Q).length : Nat) := by
      rw [slS]; exact rfind_S 47 _ q hq
    rw [e, hr]
    have hs : Txt.slice (S ((47 :: jl [47] Q) ++ 47 :: q)) none (some (((47 :: jl [47] Q).length : Nat) + 1)) = S ((47 :: jl [47] Q) ++ [47]) := by
      have := slice_to (S ((47 :: jl [47] Q) ++ 47 :: q)) ((47 :: jl [47] Q).length + 1)
      rw [S_list] at this
      refine this.trans ?_
      congr 2
      rw [List.take_append]
      simp
      exact List.take_of_length_le (by omega)
    rw [hs]
    obtain ⟨d, hd, hne⟩ := jl_last h hQ
    have hd' : (47 :: jl [47] Q).getLast? = some d := by
      cases hj : jl [47] Q with
      | nil => rw [hj] at hd; cases hd
      | cons a t => rw [List.getLast?_cons_cons, ← hj]; exact hd
    have hm : Txt.mul "/" ((S ((47 :: jl [47] Q) ++ [47])).length : Nat) = S (List.replicate (S ((47 :: jl [47] Q) ++ [47])).length 47) := by rw [slS]; exact mul_S 47 _
    dsimp only
    rw [hm, if_pos, slS, rstrip_S _ 47 d hd' hne]
    · rfl
    · have hb : (S ((47 :: jl [47] Q) ++ [47]) != S (List.replicate (S ((47 :: jl [47] Q) ++ [47])).length 47)) = true := by
        unfold bne
        rw [S_beq]
        have : (((47 :: jl [47] Q) ++ [47]) == List.replicate (S ((47 :: jl [47] Q) ++ [47])).length 47) = false := by
          rw [beq_eq_false_iff_ne]
          intro e2
          have hm : d ∈ (47 :: jl [47] Q) ++ [47] := List.mem_append_left _ (List.mem_of_getLast? hd')
          rw [e2] at hm
          exact hne (List.eq_of_mem_replicate hm)
        rw [this]; rfl
      rw [hb, S_len]; simp
theorem base_snoc {Q : List (List Nat)} {q : List Nat} (hq : 47 ∉ q) : Txt.slice (S (hdL (Q ++ [q]))) (some (Txt.rfind (S (hdL (Q ++ [q]))) "/" + 1)) none = S q := by
  obtain ⟨a, e⟩ : ∃ a, hdL (Q ++ [q]) = a ++ 47 :: q := by
    by_cases hQ : Q = []
    · subst hQ; exact ⟨[], rfl⟩
    · exact ⟨47 :: jl [47] Q, by unfold hdL; rw [jl_snoc hQ]; rfl⟩
  have hr : Txt.rfind (S (a ++ 47 :: q)) "/" = (a.length : Nat) := by rw [slS]; exact rfind_S 47 a q hq
  rw [e, hr]
  have := slice_from (S (a ++ 47 :: q)) (a.length + 1)
  rw [S_list] at this
  refine this.trans ?_
  show S ((a ++ 47 :: q).drop (a.length + 1)) = S q
  congr 1
  rw [← List.drop_drop, List.drop_left]; rfl
theorem dirs_hd {Q : List (List Nat)} (h : ∀ q ∈ Q, 47 ∉ q ∧ q ≠ []) : ∀ i, i ≤ Q.length → dirs (S (hdL Q)) i = S (hdL (Q.take (Q.length - i)))
  | 0, _ => by
    rw [Nat.sub_zero, List.take_length]; rfl
  | i + 1, hi => by
    show dirN (dirs (S (hdL Q)) i) = _
    rw [dirs_hd h i (by omega)]
    have hlt : Q.length - (i + 1) < Q.length := by omega
    have e : Q.take (Q.length - i) = Q.take (Q.length - (i + 1)) ++ [Q[Q.length - (i + 1)]] := by
      rw [show Q.length - i = (Q.length - (i + 1)) + 1 by omega, List.take_add_one, List.getElem?_eq_getElem hlt]; rfl
    rw [e]
    exact dir_snoc (fun q hq => h q (List.mem_of_mem_take hq)) (h _ (List.getElem_mem hlt)).1
theorem noadj_mid : ∀ {a b : List Nat}, NoAdj a → NoAdj b → NoAdj (a ++ 47 :: b)
  | [], [], _, _ => trivial
  | [], x :: b, _, h => ⟨fun e => (by cases e.1), h⟩
  | [x], [], _, _ => ⟨fun e => (by cases e.2), trivial⟩
  | [x], y :: b, _, h => ⟨fun e => (by cases e.2), fun e => (by cases e.1), h⟩
  | x :: y :: a, b, h1, h2 => ⟨h1.1, noadj_mid (a := y :: a) h1.2 h2⟩
noncomputable def noAdjB : List Nat → Bool
  | a :: b :: r => !(a == 42 && b == 42) && noAdjB (b :: r)
  | _ => true
theorem noAdjB_ok : ∀ {l : List Nat}, noAdjB l = true → NoAdj l
  | [], _ => trivial
  | [_], _ => trivial
  | a :: b :: r, h => by
    unfold noAdjB at h
    rw [Bool.and_eq_true] at h
    refine ⟨fun e => ?_, noAdjB_ok h.2⟩
    rw [e.1, e.2] at h
    simp at h
theorem nm_noadj : ∀ q ∈ Nms, noAdjB q = true := by decide
noncomputable def Names (Q : List (List Nat)) : Prop := ∀ q ∈ Q, q ∈ Nms
theorem Names.take {Q : List (List Nat)} (h : Names Q) (k : Nat) : Names (Q.take k) := fun q hq => h q (List.mem_of_mem_take hq)
theorem jl_noadj : ∀ {Q : List (List Nat)}, Names Q → NoAdj (jl [47] Q)
  | [], _ => trivial
  | [q], h => noAdjB_ok (nm_noadj q (h q List.mem_cons_self))
  | q :: u :: t, h => by
    show NoAdj (q ++ [47] ++ jl [47] (u :: t))
    rw [List.append_assoc]
    exact noadj_mid (noAdjB_ok (nm_noadj q (h q List.mem_cons_self))) (jl_noadj (Q := u :: t) fun x hx => h x (List.mem_cons_of_mem _ hx))
theorem hd_noadj {Q : List (List Nat)} (h : Names Q) : NoAdj (hdL Q) := noadj_mid (a := []) trivial (jl_noadj h)
theorem jl_al : ∀ {Q : List (List Nat)}, Names Q → ∀ c ∈ jl [47] Q, c ∈ Al
  | [], _, c, hc => by cases hc
  | [q], h, c, hc => (nm_ok q (h q List.mem_cons_self)).2.2.2 c hc
  | q :: u :: t, h, c, hc => by
    have hc' : c ∈ q ++ [47] ++ jl [47] (u :: t) := hc
    rw [List.append_assoc] at hc'
    rcases List.mem_append.mp hc' with hc | hc
    · exact (nm_ok q (h q List.mem_cons_self)).2.2.2 c hc
    · rcases List.mem_append.mp hc with hc | hc
      · rw [List.mem_singleton.mp hc]; decide
      · exact jl_al (Q := u :: t) (fun x hx => h x (List.mem_cons_of_mem _ hx)) c hc
theorem hd_al {Q : List (List Nat)} (h : Names Q) : ∀ c ∈ hdL Q, c ∈ Al := by
  intro c hc
  rcases List.mem_cons.mp hc with rfl | hc
  · decide
  · exact jl_al h c hc
theorem hd_len {Q : List (List Nat)} (h : Names Q) : (hdL Q).length ≤ 4 * Q.length + 1 := by
  have := jl_len fun q hq => (nm_ok q (h q hq)).2.2.1
  unfold hdL; rw [List.length_cons]; omega
/-- the pattern that the law reads of a path -/
noncomputable def patL (h : List Nat) : List Nat := if 42 ∈ h then h else 42 :: h
theorem pat_star (h : List Nat) : 42 ∈ patL h := by
  unfold patL
  split
  · assumption
  · exact List.mem_cons_self
theorem pat_al {h : List Nat} (hA : ∀ c ∈ h, c ∈ Al) : ∀ c ∈ patL h, c ∈ Al := by
  unfold patL
  split
  · exact hA
  · intro c hc
    rcases List.mem_cons.mp hc with rfl | hc
    · decide
    · exact hA c hc
theorem pat_len (h : List Nat) : (patL h).length ≤ h.length + 1 := by
  unfold patL
  split
  · omega
  · rw [List.length_cons]; omega
theorem pat_noadj {h : List Nat} (hn : NoAdj h) (h0 : h.head? ≠ some 42) : NoAdj (patL h) := by
  unfold patL
  split
  · exact hn
  · cases h with
    | nil => trivial
    | cons a t => exact ⟨fun e => h0 (by rw [e.2]; rfl), hn⟩
theorem star_S2 : ("*" : Str) = S [42] := by decide +kernel
theorem contains_star (h : List Nat) : Txt.contains (S h) "*" = decide (42 ∈ h) := by rw [star_S2]; exact contains_S h 42
theorem pat_text (h : List Nat) : S (patL h) = if Txt.contains (S h) "*" = true then S h else "*" ++ S h := by
  rw [contains_star]
  unfold patL
  by_cases hc : 42 ∈ h
  · rw [if_pos hc, if_pos (by simpa using hc)]
  · rw [if_neg hc, if_neg (by simpa using hc), star_S2, S_app]; rfl
theorem lead_text (h : List Nat) (hA : ∀ c ∈ h, c ∈ Al) : leadN (S h) ++ dressN (S h) = S ((patL h).flatMap dr) := by
  rw [dress_S hA]
  unfold leadN patL
  rw [contains_star]
  by_cases hc : 42 ∈ h
  · rw [if_pos (by simpa using hc), if_pos hc, emp_S, S_app]; rfl
  · rw [if_neg (by simpa using hc), if_neg hc, star_S2, S_app]; rfl
theorem pre_text (h : List Nat) : preT (S h) = if 42 ∈ h then [] else [none] := by
  unfold preT leadN
  rw [contains_star]
  by_cases hc : 42 ∈ h
  · rw [if_pos (show decide (42 ∈ h) = true by simpa using hc), if_neg (by decide +kernel), if_pos hc]
  · rw [if_neg (show ¬ decide (42 ∈ h) = true by simpa using hc), if_pos (by decide +kernel), if_neg hc]
theorem slash_tok : some slashS = tokc 47 := by
  have : slashS = S (Eb 47) := by decide +kernel
  rw [this]; rfl
theorem piece_fold : ∀ (Q : List (List Nat)) (acc : List (Option Str)), Names Q → (Q.map S).foldl (pieceF trT) acc = acc ++ (Q.flatMap fun q => 47 :: q).map tokc
  | [], acc, _ => by simp
  | q :: Q, acc, h => by
    have hq := (nm_ok q (h q List.mem_cons_self)).2.2.2
    rw [List.map_cons, List.foldl_cons, piece_fold Q _ fun x hx => h x (List.mem_cons_of_mem _ hx)]
    unfold pieceF
    rw [dress_S hq, trT_S, slash_tok, List.flatMap_cons]
    simp
theorem jl_flatS : ∀ {Q : List (List Nat)}, Q ≠ [] → hdL Q = Q.flatMap fun q => 47 :: q
  | [], h => absurd rfl h
  | q :: Q, _ => by
    unfold hdL
    rw [jl_flat]; rfl
theorem pieces_text {Q : List (List Nat)} (h : Names Q) : piecesN trT (S (hdL Q)) (Q.map S) = (patL (hdL Q)).map tokc := by
  have hp : (patL (hdL Q)).map tokc = preT (S (hdL Q)) ++ (hdL Q).map tokc := by
    rw [pre_text]
    unfold patL
    split
    · rfl
    · rw [List.map_cons]; rfl
  unfold piecesN
  rw [piece_fold Q _ h, hp]
  by_cases hQ : Q = []
  · subst hQ
    rw [if_pos (show List.map S [] = [] from rfl), slash_tok]
    simp [hdL, jl]
  · rw [if_neg (by simpa using hQ), jl_flatS hQ]
theorem al_ascii : ∀ c ∈ Al, c < 128 := by decide
theorem ascii_S {l : List Nat} (h : ∀ c ∈ l, c ∈ Al) : (S l).cps.all (· < 128) = true := by
  rw [Array.all_eq_true_iff_forall_mem]
  intro c hc
  have : c ∈ l := by simpa [S] using hc
  simpa using al_ascii c (h c this)
theorem E1_len (c : Nat) : (E1 c).length ≤ 4 := by
  unfold E1 E0
  split
  · simp
  · split
    · simp
    · have := Ec_len c; omega
theorem dr3 (c : Nat) : (dr c).length ≤ 3 := (dr_len c).2
theorem strip_len (x y : Str) : (Txt.rstripChars x y).length ≤ x.length := by
  unfold Txt.rstripChars Txt.stripBy
  split
  · exact Nat.le_refl _
  · unfold PySem.stripped
    have h := StrLaws.strSub_toList x (stripLo y.cps.contains false x) (stripHi y.cps.contains true x (stripLo y.cps.contains false x))
    have : (Builtin.Str.strSub x (stripLo y.cps.contains false x) (stripHi y.cps.contains true x (stripLo y.cps.contains false x))).length ≤ x.cps.toList.length := by
      show (Builtin.Str.strSub x _ _).cps.size ≤ _
      rw [← Array.length_toList, h, List.length_take, List.length_drop]
      omega
    simpa [Str.length] using this
theorem dir_len (x : Str) : (dirN x).length ≤ x.length := by
  unfold dirN
  have h := Txt.slice_le x none (some (Txt.rfind x "/" + 1))
  dsimp only
  split
  · exact Nat.le_trans (strip_len _ _) h
  · exact h
theorem places_len {x : Str} {sp : List Int} (hx : x.length ≤ 100) : ∀ p ∈ placesN (placeN x.cps.toList sp), p.length ≤ 90000 := by
  have hl : x.cps.toList.length = x.length := by simp [Str.length]
  have h1 := (plFold_len sp x.cps.toList (emptyS, 0)).1
  have e0 : emptyS.length = 0 := by decide +kernel
  have hp : (placeN x.cps.toList sp).length ≤ 200 := by
    unfold placeN
    simp only [e0] at h1
    omega
  generalize placeN x.cps.toList sp = p at *
  have e1 : ("b" : Str).length = 1 := by decide +kernel
  intro q hq
  unfold placesN at hq
  simp only [List.mem_cons, List.not_mem_nil, or_false] at hq
  rcases hq with rfl | rfl | rfl | rfl
  · omega
  · rw [Str.length_append, e1]; omega
  · have := Txt.slice_le p (some 1) none; omega
  · have := dir_len p; omega
section
variable {G : Gl} {n : Nat} {t : Bool} {p d : Addr} {f : Int → Option Value}
/-- translate_pattern at a path, by its parts -/
theorem s_rule (H : Fns G) (T : TwinG G p) (Te : EscTab G d f) (hf : EscAl f) {h : List Nat} (hA : ∀ c ∈ h, c ∈ Al) (hl : h.length ≤ 1000) :
    ∃ r0 mid rl, Cut (patL h) r0 mid rl ∧ ∀ n t, CallN G (n + 3) t "translate_pattern" [.str (S h)] (.str (S (ruleL Ec r0 mid rl))) := by
  by_cases hc : 42 ∈ h
  · obtain ⟨r0, mid, rl, hs, C⟩ := cut_of hc
    have e : patL h = h := by unfold patL; rw [if_pos hc]
    exact ⟨r0, mid, rl, by rw [e]; exact C, fun n t => s_tp1 H T Te hf hA (by omega) hs C⟩
  · have e : patL h = 42 :: h := by unfold patL; rw [if_neg hc]
    exact ⟨[], [], h, ⟨by rw [e]; simp, by simp, fun s hs => (nomatch hs), hc⟩, fun n t => s_tp0 H T Te hf hA (by omega) hc⟩
theorem s_fr (H : Fns G) (T : TwinG G p) (Te : EscTab G d f) (hf : EscAl f) {Q : List (List Nat)} (hQ : Names Q) (hl : Q.length ≤ 14) {r0 rl : List Nat} {mid : List (List Nat)} (C : Cut (patL (hdL Q)) r0 mid rl) :
    CallN G (n + 4) true "_law_frames" [.str (S (ruleL Ec r0 mid rl)), .str (S (hdL Q)), .list ((Q.map S).map .str)] (.bool true) := by
  have hA := hd_al hQ
  have hpA := pat_al hA
  have hlen := hd_len hQ
  have hpl := pat_len (hdL Q)
  have hn0 : NoAdj (patL (hdL Q)) := pat_noadj (hd_noadj hQ) (by simp [hdL])
  obtain ⟨d1, d2, d3⟩ := due_cut C hpA
  have l0 := rule_len Ec4 C
  have l1 := rule_len E1_len C
  have l2 := rule_len Eb_len C
  have ok := tokOk C hn0 (by omega)
  have htr : trT (leadN (S (hdL Q)) ++ dressN (S (hdL Q))) = (patL (hdL Q)).map tokc := by rw [lead_text _ hA, trT_S]
  have hpc := pieces_text hQ
  have hj := due_join C hpA
  refine s_frames (n := n + 1) (tr := trT) H (by rw [S_len]; omega) (by rw [d2, S_len]; omega) (by rw [d3, S_len]; omega) (by rw [S_len]; omega) (ascii_S hA) ?_ ?_ ?_ ?_ (by rw [htr]; exact ok) (by rw [hpc]; exact ok) (by rw [htr]; exact hj) (by rw [hpc]; exact hj)
  · rw [dress_S hA, S_len]
    have := flat_len dr3 (hdL Q)
    omega
  · intro nm hnm
    obtain ⟨q, hq, rfl⟩ := List.mem_map.mp hnm
    obtain ⟨g1, g2, g3, g4⟩ := nm_ok q (hQ q hq)
    refine ⟨by rw [S_len]; omega, ascii_S g4, ?_⟩
    rw [dress_S g4, trT_S, List.length_map]; omega
  · intro i
    rw [← List.map_take, piece_fold _ _ (hQ.take i), pre_text, List.length_append, List.length_map]
    have hx : ∀ Q : List (List Nat), Names Q → (Q.flatMap fun q => 47 :: q).length ≤ 4 * Q.length := by
      intro Q
      induction Q with
      | nil => intro _; simp
      | cons q Q ih =>
        intro h
        have := ih fun x hx => h x (List.mem_cons_of_mem _ hx)
        have := (nm_ok q (h q List.mem_cons_self)).2.2.1
        rw [List.flatMap_cons, List.length_append, List.length_cons, List.length_cons]; omega
    have := hx _ (hQ.take i)
    rw [List.length_take] at this
    have h2 : (if 42 ∈ hdL Q then [] else [none] : List (Option Str)).length ≤ 1 := by split <;> simp
    omega
  · intro a y hy
    rcases hy with rfl | ⟨nm, hnm, rfl⟩
    · rw [lead_text _ hA, trT_S]
      exact s_tr (n := n) H T Te hf hpA hn0 (by omega)
    · obtain ⟨q, hq, rfl⟩ := List.mem_map.mp hnm
      obtain ⟨g1, g2, g3, g4⟩ := nm_ok q (hQ q hq)
      rw [dress_S g4, trT_S]
      exact s_tr (n := n) H T Te hf g4 (noAdjB_ok (nm_noadj q (hQ q hq))) (by omega)
theorem s_re (H : Fns G) {Q : List (List Nat)} (hQ : Names Q) (hl : Q.length ≤ 14) {r0 rl : List Nat} {mid : List (List Nat)} (C : Cut (patL (hdL Q)) r0 mid rl) {places : List Str} (hp : ∀ x ∈ places, x.length ≤ 90000) :
    CallN G (n + 2) t "_law_reaches" [.str (S (ruleL Ec r0 mid rl)), .str (S (hdL Q)), .list (places.map .str)] (.bool true) := by
  have hA := hd_al hQ
  have hpA := pat_al hA
  have hlen := hd_len hQ
  have hpl := pat_len (hdL Q)
  have l0 := rule_len Ec4 C
  obtain ⟨s0, sm, sl'⟩ := C.sub
  have hm : mid.length ≤ (patL (hdL Q)).length := by
    have : ∀ ls : List (List Nat), ls.length ≤ (ls.flatMap fun s => 42 :: s).length := by
      intro ls
      induction ls with
      | nil => simp
      | cons x r ih => rw [List.flatMap_cons, List.length_append, List.length_cons, List.length_cons]; omega
    have h1 := this (mid ++ [rl])
    have h2 := congrArg List.length C.eq
    rw [List.length_append] at h1 h2
    omega
  have hsz : r0.length ≤ 100 ∧ (∀ s ∈ mid, s.length ≤ 100) ∧ rl.length ≤ 100 := by
    have h2 := congrArg List.length C.eq
    rw [List.flatMap_append, List.length_append, List.length_append] at h2
    simp only [List.flatMap_cons, List.flatMap_nil, List.length_cons, List.append_nil] at h2
    refine ⟨by omega, fun s hs => ?_, by omega⟩
    have : ∀ ls : List (List Nat), s ∈ ls → s.length ≤ (ls.flatMap fun s => 42 :: s).length := by
      intro ls
      induction ls with
      | nil => intro h; cases h
      | cons x r ih =>
        intro h
        rw [List.flatMap_cons, List.length_append, List.length_cons]
        rcases List.mem_cons.mp h with rfl | h
        · omega
        · have := ih h; omega
    have := this mid hs
    omega
  refine s_reaches (pat := S (patL (hdL Q))) (r0 := S r0) (mid := mid.map S) (rl := S rl) H (by rw [S_len]; omega) (by rw [S_len]; omega) (pat_text _) (ascii_S hpA) ?_ (by rw [S_len]; omega) ?_ (by rw [S_len]; omega) (by rw [List.length_map]; omega) hp ?_
  · rw [S_list]; exact runs_cut C hpA
  · intro r hr
    obtain ⟨s, hs, rfl⟩ := List.mem_map.mp hr
    have := hsz.2.1 s hs
    rw [S_len]; omega
  · intro x _
    have := reach_far x.cps.toList C
    rw [← S_of] at this
    rw [S_list]; exact this
end
section
variable {G : Gl} {n : Nat} {p d : Addr} {f : Int → Option Value}
noncomputable def hsN (Q : List (List Nat)) : List Str := (List.range (Q.length + 1)).map fun i => S (hdL (Q.take (Q.length - i)))
theorem heads_hs {Q : List (List Nat)} (h : ∀ q ∈ Q, 47 ∉ q ∧ q ≠ []) : headsN (S (hdL Q)) Q.length = hsN Q := by
  unfold headsN hsN
  refine List.map_congr_left fun i hi => dirs_hd h i ?_
  have := List.mem_range.mp hi
  omega
theorem hs_len (Q : List (List Nat)) : (hsN Q).length = Q.length + 1 := by unfold hsN; rw [List.length_map, List.length_range]
theorem hs_get {Q : List (List Nat)} {i : Nat} (h : i ≤ Q.length) : (hsN Q)[i]? = some (S (hdL (Q.take (Q.length - i)))) := by
  unfold hsN
  rw [List.getElem?_map, List.getElem?_range (by omega)]; rfl
theorem down_ok : ∀ m, m < 15 → Builtin.Range.small ((m : Nat) : Int) (-1) (-1) = true ∧ Builtin.Range.rangeSize ((m : Nat) : Int) (-1) (-1) = ((m + 1 : Nat) : Int) ∧ Builtin.divisionGoesByPylong (-1 - ((m : Nat) : Int)) (-1) = false := by decide +kernel
noncomputable def hdV (Q : List (List Nat)) : V → V
  | .int i => .str (S (hdL (Q.take i.toNat)))
  | v => v
noncomputable def bsV : V → V
  | .str y => .str (Txt.slice y (some (Txt.rfind y "/" + 1)) none)
  | v => v
theorem int42 : ∀ env : Env, env.scope = sc42 → interactive env = false := fun _ h => by unfold interactive; rw [h]; rfl
theorem s_law (H : Fns G) (T : TwinG G p) (Te : EscTab G d f) (hf : EscAl f) {ds0 ds : List Int} (hdl : ds.length ≤ 6) :
    EX G (n + 6) sc42 true (bd42.drop 1) [.arr (ds0.map .int), .list (ds.map .int), .unb, .unb, .unb, .unb, .unb, .unb, .unb, .unb] (retOf (.bool true)) := by
  unfold bd42
  refine x_cons (xs_assign (v := .list ((partsN ds).map .str)) i42_parts rfl (e_gcall g42__law_parts d__law_parts (fun _ => rfl) (fun _ _ => rfl) (sp_one (fun _ => rfl) (e_var i42_draws rfl rfl rfl d_draws)) (s_parts (n := n + 5) H (by omega))) rfl (fun _ _ => rfl) (by dsimp only [List.set_cons_zero, List.set_cons_succ] <;> rfl) (Nat.le_of_ble_eq_true rfl) ?_)
  obtain ⟨Q, r, P⟩ := path_of hdl
  have hQ : Names Q := P.good
  have hQ2 : ∀ q ∈ Q, 47 ∉ q ∧ q ≠ [] := fun q hq => ⟨(nm_ok q (hQ q hq)).1, (nm_ok q (hQ q hq)).2.1⟩
  have hQl := P.len
  have hpl : (partsN ds).length ≤ 7 := by unfold partsN; rw [List.length_append, List.length_map, List.length_singleton]; omega
  have hp3 : ∀ w ∈ partsN ds, w.length ≤ 1000 := fun w hw => by have := (words_ok w (parts_in ds w hw)).2.2.2; omega
  have hp2 : ∀ w ∈ partsN ds, (Txt.split w "/").length ≤ 1000 := fun w hw => by have := (words_ok w (parts_in ds w hw)).2.2.1; omega
  refine x_cons (xs_assign (v := .list ((Q.map S).map .str)) i42_pile rfl (e_is (e_gcall g42__law_pile d__law_pile (fun _ => rfl) (fun _ _ => rfl) (sp_one (fun _ => rfl) (e_var i42_parts rfl rfl rfl d_parts)) (s_pile (n := n + 5) H (by omega) hp3 hp2)) (by rw [P.pile])) rfl (fun _ _ => rfl) (by dsimp only [List.set_cons_zero, List.set_cons_succ] <;> rfl) (Nat.le_of_ble_eq_true rfl) ?_)
  refine x_cons (xs_assign (v := .str (S (hdL Q))) i42_straight rfl (e_is (e_gcall g42__law_straight d__law_straight (fun _ => rfl) (fun _ _ => rfl) (sp_one (fun _ => rfl) (e_var i42_parts rfl rfl rfl d_parts)) (s_straight (n := n + 2) H hp3 (fun i => whole_short ds i hdl) P.normOk)) (by rw [P.norm])) rfl (fun _ _ => rfl) (by dsimp only [List.set_cons_zero, List.set_cons_succ] <;> rfl) (Nat.le_of_ble_eq_true rfl) ?_)
  have hqv : ((Q.map S).map V.str).length = Q.length := by rw [List.length_map, List.length_map]
  have hhd := hd_len hQ
  have hdirs : ∀ i, i ≤ Q.length → (dirs (S (hdL Q)) i).length ≤ 1000000 := fun i hi => by
    rw [dirs_hd hQ2 i hi, S_len]
    have := hd_len (hQ.take (Q.length - i))
    rw [List.length_take] at this
    omega
  refine x_cons (xs_assign (v := .list ((hsN Q).map .str)) i42_heads rfl (e_is (e_gcall g42__law_heads d__law_heads (fun _ => rfl) (fun _ _ => rfl) (sp_cons (fun _ => rfl) (e_var i42_straight rfl rfl rfl d_straight) (sp_one (fun _ => rfl) (e_is (e_bcall g42_len H.n_len bb_len nn_len d_len (fun _ => rfl) (fun _ _ => rfl) (sp_one (fun _ => rfl) (e_var i42_pile rfl rfl rfl d_pile)) (c_len_list (by rw [hqv]; omega))) (by rw [hqv]))) rfl) (s_heads (n := n + 3) H (by omega) hdirs)) (by rw [heads_hs hQ2])) rfl (fun _ _ => rfl) (by dsimp only [List.set_cons_zero, List.set_cons_succ] <;> rfl) (Nat.le_of_ble_eq_true rfl) ?_)
  obtain ⟨k1, k2, k3⟩ := down_ok Q.length (by omega)
  have hnl : ∀ i : Nat, i < Q.length + 1 → ((Q.length : Int) + (i : Int) * (-1)).toNat = Q.length - i := fun i hi => by omega
  refine x_cons (x_if (b := !decide (hsN Q = hsN Q)) (t_cmp (e_ne_strs (xs := hsN Q) (ys := hsN Q) (e_var i42_heads rfl rfl rfl d_heads).loan (EP.loan (EF.ep (f_is (f_comp (src := .range Q.length (-1) (-1)) (N := Q.length + 1) (vs := fun i => .int ((Q.length : Int) + (i : Int) * (-1))) (kx := 1) (fun _ => true) (hdV Q) (fun v => [.unb, v, .list ((Q.map S).map .str)]) ?_ (fun _ _ => rfl) ⟨k1, k2, fun i => rfl⟩ (by omega) (fun _ _ => trivial) ?_
      (by decide +kernel) rfl (by decide +kernel) (by decide +kernel) (by decide +kernel) (by decide +kernel) (fun _ => rfl) ?_ (fun _ _ => rfl) ?_) ?_))) rfl) rfl) (fun h => ?_) (fun _ => x_nil ?_))
  · exact e_tcall g42_range H.n_range bb_range nn_range d_range (fun _ => rfl) (fun _ _ => rfl) (sp_cons (fun _ => rfl) (e_is (e_bcall g42_len H.n_len bb_len nn_len d_len (fun _ => rfl) (fun _ _ => rfl) (sp_one (fun _ => rfl) (e_var i42_pile rfl rfl rfl d_pile)) (c_len_list (by rw [hqv]; omega))) (by rw [hqv])) (sp_cons (fun _ => rfl) (e_is (e_neg e_int) rfl) (sp_one (fun _ => rfl) (e_is (e_neg e_int) rfl)) rfl) rfl) (c_range3 (by decide) k3)
  · refine clo_of (by decide +kernel) (by decide +kernel) ?_
    intro k y hk
    match k, hk with
    | 0, hk => exact absurd (Prod.mk.inj (Option.some.inj hk)).2 (by decide)
    | 1, hk => exact absurd (Prod.mk.inj (Option.some.inj hk)).2 (by decide)
    | 2, hk => cases (Prod.mk.inj (Option.some.inj hk)).1; exact ⟨3, i42_pile, fun v w h1 h2 => by cases h1; exact ⟨rfl, rfl⟩⟩
    | k + 3, hk => cases hk
  · intro v k y u h1 h2 h3
    have h4 := congrArg (Option.map (·.2)) h1
    simp only [Option.map_some] at h4
    match k, h2 with
    | 0, h2 => cases h2; exact absurd rfl h3
    | 1, h2 => rfl
    | 2, h2 => exact absurd h4 (by decide +kernel)
    | k + 3, h2 => cases h2
  · intro i hi _
    refine ⟨?_, rfl⟩
    have e1 : ("/" : Str).length = 1 := by decide +kernel
    have hv : hdV Q (.int ((Q.length : Int) + (i : Int) * (-1))) = .str (S (hdL (Q.take (Q.length - i)))) := by
      show V.str (S (hdL (Q.take ((Q.length : Int) + (i : Int) * (-1)).toNat))) = _
      rw [hnl i hi]
    rw [hv]
    have htk := hd_len (hQ.take (Q.length - i))
    have hj : (Txt.join "/" ((Q.take (Q.length - i)).map S)).length + 1 = (hdL (Q.take (Q.length - i))).length := by
      rw [slS, join_S, S_len]; rfl
    have hjs : (((Q.take (Q.length - i)).map S).map (·.length)).sum ≤ 1000 := by
      have : ∀ Q : List (List Nat), Names Q → ((Q.map S).map (·.length)).sum ≤ 3 * Q.length := by
        intro Q
        induction Q with
        | nil => intro _; simp
        | cons q Q ih =>
          intro h
          have := ih fun x hx => h x (List.mem_cons_of_mem _ hx)
          have := (nm_ok q (h q List.mem_cons_self)).2.2.1
          rw [List.map_cons, List.map_cons, List.sum_cons, S_len, List.length_cons]; omega
      have := this _ (hQ.take (Q.length - i))
      rw [List.length_take] at this
      omega
    rw [List.length_take] at htk
    have ht : ((Q.map S).map V.str).take (Q.length - i) = ((Q.take (Q.length - i)).map S).map .str := by rw [List.map_take, List.map_take]
    refine e_is (e_bin (w := .str (Txt.join "/" ((Q.take (Q.length - i)).map S))) e_str (e_methc PySem.F.slot_str_join ty_join (fun _ _ => rfl) (fun _ => rfl) rfl (fun _ _ => rfl) e_str (sp_one (fun _ => rfl) (e_is (e_slice_to (l := (Q.map S).map .str) (k := (Q.length : Int) + (i : Int) * (-1)) (e_var (k := 2) (kd := .cell) (by decide +kernel) rfl rfl rfl (by decide +kernel)) (e_var (k := 1) (kd := .local) (by decide +kernel) rfl rfl rfl (by decide +kernel)) (by omega) (by rw [hqv]; omega)) (by rw [hnl i hi, ht]))) (c_join_list (by rw [e1, List.length_map, List.length_take]; omega))) (BinV.adds (by rw [e1]; omega))) ?_
    rw [slS, join_S, S_app]; rfl
  · rw [filter_true, List.map_map]
    unfold hsN
    rw [List.map_map]
    refine List.map_congr_left fun i hi => ?_
    have := List.mem_range.mp hi
    show V.str (S (hdL (Q.take ((Q.length : Int) + (i : Int) * (-1)).toNat))) = V.str _
    rw [hnl i this]
  · simp at h
  have hhl : ((hsN Q).map V.str).length = Q.length + 1 := by rw [List.length_map, hs_len]
  refine x_cons (xs_assign (v := .list ((Q.map S).map .str)) i42_names rfl (e_is (e_slice_rev (l := (List.range Q.length).map fun i => bsV (.str (((hsN Q)[i]?).getD ""))) (EF.ep (EF.weak (f_is (f_comp (src := .list ((hsN Q).map .str).dropLast) (N := Q.length) (vs := fun i => .str (((hsN Q)[i]?).getD "")) (kx := 1) (fun _ => true) bsV (fun v => [.unb, v, .unb]) ?_ (fun _ _ => rfl) ⟨?_, ?_⟩ (by omega) (fun _ _ => trivial) ?_
      (by decide +kernel) rfl (by decide +kernel) (by decide +kernel) (by decide +kernel) (by decide +kernel) (fun _ => rfl) ?_ (fun _ _ => rfl) ?_) ?_))) (e_is (e_neg e_int) rfl) ?_) ?_) rfl (fun _ _ => rfl) (by dsimp only [List.set_cons_zero, List.set_cons_succ] <;> rfl) (Nat.le_of_ble_eq_true rfl) ?_)
  · exact e_slice_init (e_var i42_heads rfl rfl rfl d_heads) (e_is (e_neg e_int) rfl) (by rw [hhl]; omega)
  · rw [List.length_dropLast, hhl]; rfl
  · intro i hi
    rw [List.getElem?_dropLast, hhl, if_pos (by omega), List.getElem?_map]
    show _ = some (V.str (((hsN Q)[i]?).getD ""))
    rw [hs_get (by omega)]; rfl
  · refine clo_of (by decide +kernel) (by decide +kernel) ?_
    intro k y hk
    match k, hk with
    | 0, hk => exact absurd (Prod.mk.inj (Option.some.inj hk)).2 (by decide)
    | 1, hk => exact absurd (Prod.mk.inj (Option.some.inj hk)).2 (by decide)
    | 2, hk => exact absurd (Prod.mk.inj (Option.some.inj hk)).2 (by decide)
    | k + 3, hk => cases hk
  · intro v k y u h1 h2 h3
    match k, h2 with
    | 0, h2 => cases h2; exact absurd rfl h3
    | 1, h2 => rfl
    | 2, h2 => cases h2; exact absurd rfl h3
    | k + 3, h2 => cases h2
  · intro i hi _
    refine ⟨?_, rfl⟩
    have hx : (((hsN Q)[i]?).getD "").length ≤ 1000000 := by
      rw [hs_get (by omega)]
      show (S (hdL (Q.take (Q.length - i)))).length ≤ _
      have := hd_len (hQ.take (Q.length - i))
      rw [List.length_take] at this
      rw [S_len]; omega
    exact e_gcall (by decide +kernel) (by decide +kernel) (fun _ => rfl) (fun _ _ => rfl) (sp_one (fun _ => rfl) (e_var (k := 1) (kd := .local) (by decide +kernel) rfl rfl rfl (by decide +kernel))) (s_basename (n := n + 4) H hx)
  · rw [filter_true, List.map_map]; rfl
  · rw [List.length_map, List.length_range]; omega
  · have e : ((List.range Q.length).map fun i => bsV (.str (((hsN Q)[i]?).getD ""))) = ((Q.map S).map V.str).reverse := by
      apply List.ext_getElem?
      intro i
      rw [List.getElem?_map]
      by_cases hi : i < Q.length
      · rw [List.getElem?_range hi, List.getElem?_reverse (by rw [hqv]; exact hi), hqv, List.getElem?_map, List.getElem?_map, List.getElem?_eq_getElem (show Q.length - 1 - i < Q.length by omega)]
        show some (bsV (.str (((hsN Q)[i]?).getD ""))) = some (V.str (S _))
        rw [hs_get (by omega)]
        have e2 : Q.take (Q.length - i) = Q.take (Q.length - 1 - i) ++ [Q[Q.length - 1 - i]] := by
          rw [show Q.length - i = (Q.length - 1 - i) + 1 by omega, List.take_add_one, List.getElem?_eq_getElem (show Q.length - 1 - i < Q.length by omega)]; rfl
        show some (V.str (Txt.slice (S (hdL (Q.take (Q.length - i)))) (some (Txt.rfind (S (hdL (Q.take (Q.length - i)))) "/" + 1)) none)) = _
        rw [e2, base_snoc (hQ2 _ (List.getElem_mem _)).1]
      · rw [List.getElem?_eq_none (by simpa using hi), List.getElem?_eq_none (by rw [List.length_reverse, hqv]; omega)]; rfl
    rw [e, List.reverse_reverse]
  have hha := ascii_S (hd_al hQ)
  refine x_cons (xs_assign (v := .list ((placesN (placeN (S (hdL Q)).cps.toList (ds ++ [0]))).map .str)) i42_places rfl (e_gcall g42__law_places d__law_places (fun _ => rfl) (fun _ _ => rfl) (sp_cons (fun _ => rfl) (e_var i42_straight rfl rfl rfl d_straight) (sp_one (fun _ => rfl) (e_var i42_draws rfl rfl rfl d_draws)) rfl) (s_places (n := n + 3) H (by rw [S_len]; omega) hha (by omega))) rfl (fun _ _ => rfl) (by dsimp only [List.set_cons_zero, List.set_cons_succ] <;> rfl) (Nat.le_of_ble_eq_true rfl) ?_)
  have hpls := places_len (x := S (hdL Q)) (sp := ds ++ [0]) (by rw [S_len]; omega)
  generalize placesN (placeN (S (hdL Q)).cps.toList (ds ++ [0])) = places at *
  refine x_cons (x_for_range (a := 0) (b := (Q.length + 1 : Nat)) (fun i σ' => ∃ u w : V, σ' = [.arr (ds0.map .int), .list (ds.map .int), .list ((partsN ds).map .str), .list ((Q.map S).map .str), .str (S (hdL Q)), .list ((hsN Q).map .str), .list ((Q.map S).map .str), .list (places.map .str), u, w]) i42_up rfl ?_ (fun _ _ => rfl) (small_one (by omega) (by omega) (by omega) (by omega)) ⟨_, _, rfl⟩ ?_ ?_)
  · exact e_tcall g42_range H.n_range bb_range nn_range d_range (fun _ => rfl) (fun _ _ => rfl) (sp_one (fun _ => rfl) (e_is (e_bcall g42_len H.n_len bb_len nn_len d_len (fun _ => rfl) (fun _ _ => rfl) (sp_one (fun _ => rfl) (e_var i42_heads rfl rfl rfl d_heads)) (c_len_list (by rw [hhl]; omega))) (by rw [hhl]))) c_range1
  · rintro i σ' hi ⟨u, w, rfl⟩
    have hi' : i ≤ Q.length := by omega
    refine ⟨Nat.le_of_ble_eq_true rfl, ?_⟩
    dsimp only [List.set_cons_zero, List.set_cons_succ]
    have hget : ((hsN Q).map V.str)[((0 : Int) + (i : Int)).toNat]? = some (.str (S (hdL (Q.take (Q.length - i))))) := by
      rw [show ((0 : Int) + (i : Int)).toNat = i by omega, List.getElem?_map, hs_get hi']; rfl
    have hQk := hQ.take (Q.length - i)
    have hQkl : (Q.take (Q.length - i)).length ≤ 14 := by rw [List.length_take]; omega
    have hkl := hd_len hQk
    obtain ⟨r0, mid, rl, C, hrule⟩ := s_rule H T Te hf (hd_al hQk) (by omega)
    generalize hhQ : Q.take (Q.length - i) = Qk at *
    have hitem : ∀ {p1 p2 p3 : Pos} {w : V}, EP G (n + 6) sc42 true (.Subscript (.Name "heads" p1) (.Name "up" p2) p3) [.arr (ds0.map .int), .list (ds.map .int), .list ((partsN ds).map .str), .list ((Q.map S).map .str), .str (S (hdL Q)), .list ((hsN Q).map .str), .list ((Q.map S).map .str), .list (places.map .str), .int ((0 : Int) + (i : Int)), w] (.str (S (hdL Qk))) := fun {p1 p2 p3 w} =>
      e_item (i := (0 : Int) + (i : Int)) (fun _ _ => ⟨_, rfl⟩) (EP.loan (e_var i42_heads rfl rfl rfl d_heads)) (e_var i42_up rfl rfl rfl d_up) (by omega) (by omega) hget
    refine x_cons (xs_assign (v := .str (S (ruleL Ec r0 mid rl))) i42_rule rfl (e_gcall g42_translate_pattern d_translate_pattern (fun _ => rfl) (fun _ _ => rfl) (sp_one (fun _ => rfl) hitem) ((hrule (n + 3) true).up (by omega))) rfl (fun _ _ => rfl) (by dsimp only [List.set_cons_zero, List.set_cons_succ] <;> rfl) (Nat.le_of_ble_eq_true rfl) ?_)
    have hns : ((Q.map S).map V.str).take ((Q.length : Int) - (0 + (i : Int))).toNat = (Qk.map S).map .str := by
      rw [show ((Q.length : Int) - (0 + (i : Int))).toNat = Q.length - i by omega, ← hhQ, List.map_take, List.map_take]
    refine x_cons (x_if (b := false) (t_is (t_not (t_val (fun _ _ => rfl) (e_gcall g42__law_frames d__law_frames (fun _ => rfl) (fun _ _ => rfl) (sp_cons (fun _ => rfl) (e_var i42_rule rfl rfl rfl d_rule) (sp_cons (fun _ => rfl) hitem (sp_one (fun _ => rfl) (e_is (e_slice_to (k := (Q.length : Int) - (0 + (i : Int))) (e_var i42_names rfl rfl rfl d_names) (e_is (e_bin (e_bcall g42_len H.n_len bb_len nn_len d_len (fun _ => rfl) (fun _ _ => rfl) (sp_one (fun _ => rfl) (e_var i42_names rfl rfl rfl d_names)) (c_len_list (by rw [hqv]; omega))) (e_var i42_up rfl rfl rfl d_up) (BinV.subi _ _)) (by rw [hqv])) (by omega) (by rw [hqv]; omega)) (by rw [hns]))) rfl) rfl) ((s_fr (n := n + 1) H T Te hf hQk hQkl C).up (by omega))) (TruV.b true))) rfl) (fun h => nomatch h) (fun _ => x_nil ?_))
    refine x_cons (x_if (b := false) (t_is (b := (decide ((0 : Int) + (i : Int) < 2) && ((!true) && true))) (t_bool (tl_and (t_cmpv rfl (e_var i42_up rfl rfl rfl d_up) e_int (CmpV.lti _ _)) (fun _ => tl_and (t_not (t_val (fun _ _ => rfl) (e_gcall g42__law_reaches d__law_reaches (fun _ => rfl) (fun _ _ => rfl) (sp_cons (fun _ => rfl) (e_var i42_rule rfl rfl rfl d_rule) (sp_cons (fun _ => rfl) hitem (sp_one (fun _ => rfl) (e_var i42_places rfl rfl rfl d_places)) rfl) rfl) ((s_re (n := n) H hQk hQkl C hpls).up (by omega))) (TruV.b true))) (fun _ => tl_and_nil)))) (by simp)) (fun h => nomatch h) (fun _ => x_nil (x_nil ⟨_, _, rfl⟩)))
  · rintro σ' ⟨u, w, rfl⟩
    exact x_cons (x_return e_bool rfl rfl)
end
noncomputable def mkG (prog : Program) (w : World) (g₀ : Heap) (mg mb : Str → Option Value) (c P : Addr) (t0 : Nat) (g : g₀.Ns mainGlobals mg) (b : g₀.Ns builtinsNs mb) (nl : g₀.NoLimit) (no : g₀.get? P = none)
    (boot : ∀ x : Str, x ≠ "__name__" → mb x = bootBuiltins x) : Gl where
  prog := prog
  w := w
  g₀ := g₀
  mg := mg
  mb := mb
  tab := P
  tc := c
  t0 := t0
  g := g
  b := b
  nl := nl
  tabNo := no
  boot := boot
  TabOk := fun _ h => ∃ ps : Array Value, h.get? P = some (tabObj ps) ∧ TriplesOk ps.toList
  tabLive := fun ⟨ps, h, _⟩ => ⟨_, h⟩
  tabKeep := fun ⟨ps, h, k⟩ _ hk => ⟨ps, hk _ _ (.inl rfl) h, k⟩
noncomputable def poOf : Stmt → Pos
  | .FunctionDef _ _ _ _ _ _ _ _ _ p => p
  | _ => ⟨0, 0, 0, 0⟩
noncomputable def recAt (nm : Str) (i : Nat) : DefRec := ⟨nm, paOf (stAt i), bdOf (stAt i), scOf (stAt i), poOf (stAt i)⟩
theorem fnAt_of {G : Gl} {view : Program} {loose : List Str} {mean : ExcName → Option Value} {mb : Str → Option Value} {h : Heap} (T : Top view loose mean G.mg mb h) (hg : ∀ b o, h.get? b = some o → o ≠ tabObj #[] → G.g₀.get? b = some o) (nm : Str) (i : Nat)
    (hf : (recsOf view).find? (fun d => d.name == nm) = some (recAt nm i)) (hc : isT (scOf (stAt i)) = true → ∀ f o fd, G.mg nm = some (.ref f) → G.g₀.get? f = some o → o.data = .func fd → fd.code = .ref G.tc) :
    ∃ f, FnAt G nm (paOf (stAt i)) (bdOf (stAt i)) (scOf (stAt i)) f := by
  obtain ⟨a, o, pm, code, doc, h1, h2, h3, c, oc, vs, t, h4, h5, h6, h7⟩ := T.fn _ (List.mem_of_find?_eq_some hf)
  have h2' := hg a o h2 (fun e => by rw [e] at h3; cases h3)
  have h5' := hg c oc h5 (fun e => by rw [e] at h6; cases h6; cases h7)
  obtain ⟨cls, dict, data, slots⟩ := o
  have h3' : data = _ := h3
  subst h3'
  exact ⟨a, ⟨cls, dict, slots, nm, doc, pm, code, .none, h2', ⟨c, oc, vs, t, h4, h5', h6, h7⟩, fun hT => hc hT a _ _ h1 h2' rfl⟩, h1⟩

structure Heads (view : Program) (K : Frag) : Prop where
  r4 : (recsOf view).find? (fun d => d.name == ("escape" : Str)) = some (recAt "escape" 4)
  r6 : (recsOf view).find? (fun d => d.name == ("translate_pattern" : Str)) = some (recAt "translate_pattern" 6)
  r9 : (recsOf view).find? (fun d => d.name == ("translate" : Str)) = some (recAt "translate" 9)
  r10 : (recsOf view).find? (fun d => d.name == ("_translate" : Str)) = some (recAt "_translate" 10)
  r11 : (recsOf view).find? (fun d => d.name == ("_join_translated_parts" : Str)) = some (recAt "_join_translated_parts" 11)
  r20 : (recsOf view).find? (fun d => d.name == ("fspath" : Str)) = some (recAt "fspath" 20)
  r24 : (recsOf view).find? (fun d => d.name == ("_get_sep" : Str)) = some (recAt "_get_sep" 24)
  r25 : (recsOf view).find? (fun d => d.name == ("join" : Str)) = some (recAt "join" 25)
  r26 : (recsOf view).find? (fun d => d.name == ("splitroot" : Str)) = some (recAt "splitroot" 26)
  r27 : (recsOf view).find? (fun d => d.name == ("basename" : Str)) = some (recAt "basename" 27)
  r28 : (recsOf view).find? (fun d => d.name == ("dirname" : Str)) = some (recAt "dirname" 28)
  r29 : (recsOf view).find? (fun d => d.name == ("normpath" : Str)) = some (recAt "normpath" 29)
  r31 : (recsOf view).find? (fun d => d.name == ("_law_parts" : Str)) = some (recAt "_law_parts" 31)
  r32 : (recsOf view).find? (fun d => d.name == ("_law_pile" : Str)) = some (recAt "_law_pile" 32)
  r33 : (recsOf view).find? (fun d => d.name == ("_law_straight" : Str)) = some (recAt "_law_straight" 33)
  r34 : (recsOf view).find? (fun d => d.name == ("_law_heads" : Str)) = some (recAt "_law_heads" 34)
  r35 : (recsOf view).find? (fun d => d.name == ("_law_places" : Str)) = some (recAt "_law_places" 35)
  r36 : (recsOf view).find? (fun d => d.name == ("_law_dress" : Str)) = some (recAt "_law_dress" 36)
  r37 : (recsOf view).find? (fun d => d.name == ("_law_frames" : Str)) = some (recAt "_law_frames" 37)
  r38 : (recsOf view).find? (fun d => d.name == ("_law_runs" : Str)) = some (recAt "_law_runs" 38)
  r39 : (recsOf view).find? (fun d => d.name == ("_law_reach" : Str)) = some (recAt "_law_reach" 39)
  r40 : (recsOf view).find? (fun d => d.name == ("_law_farthest" : Str)) = some (recAt "_law_farthest" 40)
  r41 : (recsOf view).find? (fun d => d.name == ("_law_reaches" : Str)) = some (recAt "_law_reaches" 41)
  n_isinstance : nsIn K mainGlobals "isinstance" = some none
  n_str : nsIn K mainGlobals "str" = some none
  n_list : nsIn K mainGlobals "list" = some none
  n_map : nsIn K mainGlobals "map" = some none
  n_range : nsIn K mainGlobals "range" = some none
  n_len : nsIn K mainGlobals "len" = some none
  n_object : nsIn K mainGlobals "object" = some none
  n_type : nsIn K mainGlobals "type" = some none
  n_issubclass : nsIn K mainGlobals "issubclass" = some none
  n_bytes : nsIn K mainGlobals "bytes" = some none
  tb : tabIn K "_translate" = some (75, 71)
theorem mkFns {G : Gl} {view : Program} {K : Frag} {loose : List Str} {mean : ExcName → Option Value} {mb : Str → Option Value} {h : Heap} (t0 : 0 < G.t0) (HH : Heads view K) (X : K.In G.g₀) (T : Top view loose mean G.mg mb h) (hg : ∀ b o, h.get? b = some o → o ≠ tabObj #[] → G.g₀.get? b = some o) (htc : G.tc = 75) : Fns G where
  t0 := t0
  f4 := fnAt_of T hg "escape" 4 HH.r4 (fun h => absurd h (by decide +kernel))
  f6 := fnAt_of T hg "translate_pattern" 6 HH.r6 (fun h => absurd h (by decide +kernel))
  f9 := fnAt_of T hg "translate" 9 HH.r9 (fun h => absurd h (by decide +kernel))
  f10 := fnAt_of T hg "_translate" 10 HH.r10 (fun _ f o fd h1 h2 h3 => by rw [htc]; exact law_code X G.g HH.tb h1 h2 h3)
  f11 := fnAt_of T hg "_join_translated_parts" 11 HH.r11 (fun h => absurd h (by decide +kernel))
  f20 := fnAt_of T hg "fspath" 20 HH.r20 (fun h => absurd h (by decide +kernel))
  f24 := fnAt_of T hg "_get_sep" 24 HH.r24 (fun h => absurd h (by decide +kernel))
  f25 := fnAt_of T hg "join" 25 HH.r25 (fun h => absurd h (by decide +kernel))
  f26 := fnAt_of T hg "splitroot" 26 HH.r26 (fun h => absurd h (by decide +kernel))
  f27 := fnAt_of T hg "basename" 27 HH.r27 (fun h => absurd h (by decide +kernel))
  f28 := fnAt_of T hg "dirname" 28 HH.r28 (fun h => absurd h (by decide +kernel))
  f29 := fnAt_of T hg "normpath" 29 HH.r29 (fun h => absurd h (by decide +kernel))
  f31 := fnAt_of T hg "_law_parts" 31 HH.r31 (fun h => absurd h (by decide +kernel))
  f32 := fnAt_of T hg "_law_pile" 32 HH.r32 (fun h => absurd h (by decide +kernel))
  f33 := fnAt_of T hg "_law_straight" 33 HH.r33 (fun h => absurd h (by decide +kernel))
  f34 := fnAt_of T hg "_law_heads" 34 HH.r34 (fun h => absurd h (by decide +kernel))
  f35 := fnAt_of T hg "_law_places" 35 HH.r35 (fun h => absurd h (by decide +kernel))
  f36 := fnAt_of T hg "_law_dress" 36 HH.r36 (fun h => absurd h (by decide +kernel))
  f37 := fnAt_of T hg "_law_frames" 37 HH.r37 (fun h => absurd h (by decide +kernel))
  f38 := fnAt_of T hg "_law_runs" 38 HH.r38 (fun h => absurd h (by decide +kernel))
  f39 := fnAt_of T hg "_law_reach" 39 HH.r39 (fun h => absurd h (by decide +kernel))
  f40 := fnAt_of T hg "_law_farthest" 40 HH.r40 (fun h => absurd h (by decide +kernel))
  f41 := fnAt_of T hg "_law_reaches" 41 HH.r41 (fun h => absurd h (by decide +kernel))
  n_isinstance := mg_none_of X G.g HH.n_isinstance
  n_str := mg_none_of X G.g HH.n_str
  n_list := mg_none_of X G.g HH.n_list
  n_map := mg_none_of X G.g HH.n_map
  n_range := mg_none_of X G.g HH.n_range
  n_len := mg_none_of X G.g HH.n_len
  n_object := mg_none_of X G.g HH.n_object
  n_type := mg_none_of X G.g HH.n_type
  n_issubclass := mg_none_of X G.g HH.n_issubclass
  n_bytes := mg_none_of X G.g HH.n_bytes

/-! the table of escape and the pattern of fnmatch, in the written part -/
noncomputable def escB (es : Array DictEntry) : Bool := Al.all fun c => match findBy Value.isInt es (c : Int) with
  | none => c == 97 || c == 98 || c == 47
  | some (.str x _) => !(c == 97 || c == 98 || c == 47) && x == S [92, c]
  | _ => false
noncomputable def keyB (es : Array DictEntry) : Bool := es.toList.all fun e => match e.key with
  | .int k _ => e.hash == hashInt k
  | _ => false
noncomputable def escIn (K : Frag) (d : Addr) : Bool := match K.lookup d with
  | some ⟨.type t, none, .dict es _, sl⟩ => t == "dict" && sl.isEmpty && keyB es && escB es
  | _ => false
theorem escIn_of {G : Gl} {K : Frag} {d : Addr} (X : K.In G.g₀) (h : escIn K d = true) (hg : G.mg "_special_chars_map" = some (.ref d)) (hs : (d == sysModules) = false) : ∃ f, EscTab G d f ∧ EscAl f := by
  unfold escIn at h
  split at h
  · rename_i t es ep sl hl
    rw [Bool.and_eq_true, Bool.and_eq_true, Bool.and_eq_true] at h
    obtain ⟨⟨⟨h1, h2⟩, h3⟩, h4⟩ := h
    have ht : t = "dict" := eq_of_beq h1
    have hsl : sl = #[] := Array.isEmpty_iff.mp h2
    subst ht; subst hsl
    have ho := X _ _ hl
    refine ⟨fun k => findBy Value.isInt es k, ⟨hg, hs, fun s' hk => ?_⟩, fun c hc => ?_⟩
    · refine Heap.IntMap.mapOf ⟨_, es, ep, hk _ _ ho, rfl, rfl, fun e he => ?_, fun k => rfl⟩ fun o e => ?_
      · have := List.all_eq_true.mp h3 e (by simpa using he)
        split at this
        · rename_i k t q
          exact ⟨k, t, q, eq_of_beq this⟩
        · cases this
      · rw [hk _ _ ho] at e; cases e; exact ⟨rfl, rfl⟩
    · have := List.all_eq_true.mp h4 c hc
      split at this
      · rename_i q
        refine .inl ⟨?_, q⟩
        simpa [or_assoc] using this
      · rename_i x u q
        rw [Bool.and_eq_true] at this
        refine .inr ⟨?_, u, ?_⟩
        · have := this.1
          simp only [Bool.not_eq_true', Bool.or_eq_false_iff, beq_eq_false_iff_ne, ne_eq] at this
          exact fun h => h.elim this.1.1 fun h => h.elim this.1.2 this.2
        · rw [← eq_of_beq this.2]; exact q
      · cases this
  · cases h
noncomputable def twinIn (K : Frag) (p : Addr) : Bool := match K.lookup p with
  | some ⟨.type t, none, .fields vs, sl⟩ => t == "re.Pattern" && sl.isEmpty && (match (vs[0]? : Option Value) with
    | some (.str x tx) => (match (vs[1]? : Option Value) with
      | some (.int _ ta) => (match (vs[5]? : Option Value) with
        | some (.ref q) => decide (vs.toList = [.str "([&~|])" tx, .int 32 ta, .int 1 0, .none, .none, .ref q, .int 0 0]) && (match K.lookup q with
          | some ⟨_, _, .seq ws _, _⟩ => ((ws.map Builtin.Re.reRawOf).map (·.toNat)) == twinCode
          | _ => false)
        | _ => false)
      | _ => false)
    | _ => false)
  | _ => false
theorem twinIn_of {K : Frag} {h : Heap} {p : Addr} (X : K.In h) (e : twinIn K p = true) : TwinAt h p := by
  unfold twinIn at e
  split at e
  · rename_i t vs sl hl
    rw [Bool.and_eq_true, Bool.and_eq_true] at e
    obtain ⟨⟨h1, h2⟩, h3⟩ := e
    have ht : t = "re.Pattern" := eq_of_beq h1
    have hsl : sl = #[] := Array.isEmpty_iff.mp h2
    subst ht; subst hsl
    split at h3
    · split at h3
      · split at h3
        · rename_i _ tx _ _ _ ta _ _ q _
          rw [Bool.and_eq_true] at h3
          obtain ⟨g1, g7⟩ := h3
          have hvs : vs = #[.str "([&~|])" tx, .int 32 ta, .int 1 0, .none, .none, .ref q, .int 0 0] := by
            rw [← Array.toArray_toList (xs := vs), of_decide_eq_true g1]
          subst hvs
          split at g7
          · rename_i cq dq ws k sq hq
            exact ⟨q, tx, ta, X _ _ hl, _, ws, k, X _ _ hq, rfl, eq_of_beq g7⟩
          · cases g7
        · cases h3
      · cases h3
    · cases h3
  · cases e
noncomputable def Gl.up (G : Gl) : Gl := { G with t0 := 1 }
section
variable {G : Gl} {n : Nat} {F : Scope} {t : Bool} {σ : List V} {pos : Pos}
theorem Dyn.Ok.up {D : Dyn} (O : D.Ok G n F) : D.Ok G.up n F :=
  ⟨O.scope, O.kind, O.glob, O.blt, O.room, O.mutL, O.mutC, O.mutT, O.noL, O.noC, O.LT, O.CT, O.LC, O.apart, O.nodup, O.code⟩
theorem Rel.up {D : Dyn} {ow : Nat → Option Addr} {s : Shared} (R : Rel G D ow σ s) (h : 0 < s.toks) : Rel G.up D ow σ s :=
  ⟨R.keep, h, R.tab, R.live, R.ns, R.cells, R.own, R.inj⟩
/-- the first statement of a frame: a name is bound, the token clock runs -/
theorem x_first {x : Str} {e : Expr} {k : Nat} {v : V} {p : Pos} {ss : List Stmt} {Q : Flo → List V → Prop} (hk : idx F x = some (k, .local)) (he : EP G n F t e σ v) (hp : v.plain = true) (hl : k < σ.length)
    (hsw : ∀ env : Env, env.scope = F → swapsWith e (some (.Name x p)) pos.line env = pure false) (h : EX G.up n F t ss (σ.set k v) Q) {D : Dyn} {ow : Nat → Option Addr} {s : Shared} {E : Value → Shared → Prop} (O : D.Ok G n F) (R : Rel G D ow σ s) :
    wpAny (model G.prog G.w) D.A (execs (.Assign [.Name x p] e pos :: ss) D.env) (XPost G.up t D ow s Q) E s := by
  refine wpAny_execs_cons (wpAny_Assign_Name (he.go O R fun val s1 r1 K1 R1 => wp_storeT O R1 hk rfl hl (repVar_of r1 hp) fun s2 R2 K2 ht => ?_) (hsw _ O.scope))
  have R3 := R2.up (Nat.lt_of_le_of_lt (Nat.zero_le _) (ht rfl))
  have K : KX G.up t D ow s s2 := (KX.of_kt K1).trans K2.weak (OwG.refl _ _)
  exact wpAny_mono (h D ow s2 E O.up R3) (fun fl' s'' y => y.trans O.up R3 K (OwG.refl _ _)) fun _ _ y => y
end
theorem reps_of_ints : ∀ {vs : List Value} {ns : List Int}, IntsAre vs ns → Reps (ns.map V.int) vs
  | _, _, .nil => trivial
  | _, _, .cons n t r => ⟨⟨t, rfl⟩, reps_of_ints r⟩
theorem cells42 (L : Addr) : cellsFrom (L + 1) sc42.names [] = [(("pile" : Str), L + 1)] := by rfl
theorem cell42 : ∀ p ∈ sc42.names.zipIdx, p.1.2 = .cell → p.2 = 3 ∧ p.1.1 = ("pile" : Str) := by decide +kernel
theorem notT42 : isT sc42 = false := by decide +kernel
theorem entry {prog : Program} {w : World} {s₁ : Shared} {mg mb : Str → Option Value} {h₁ : Heap} {fa : Addr} {nm : Str} {cd : Value} {tk : Nat} {w3 : Addr} {w2 : List Value} {ds0 : List Int} {wc : Obj} {m : Str → Option Value}
    {view p' : Program} {loose loose' : List Str} {mean mean' : ExcName → Option Value} {K : Frag} {E : Value → Shared → Prop}
    (hT : TabsAt [(75, 71)] s₁.heap) (X : K.In (ghostOf s₁.heap [(75, 71)])) (T' : Top p' loose' mean' mg mb (ghostOf s₁.heap [(75, 71)])) (T : Top view loose mean mg mb s₁.heap) (F : Fr (ghostOf s₁.heap [(75, 71)]) s₁.heap.objs.size h₁ m)
    (N : News (ghostOf s₁.heap [(75, 71)]) s₁.heap.objs.size h₁ [(s₁.heap.objs.size + 1, wc), (71, tabObj #[])]) (hls : (ghostOf s₁.heap [(75, 71)]).IsList w3 w2.toArray) (hI : IntsAre w2 ds0) (hd : CodeHd (ghostOf s₁.heap [(75, 71)]) 75 71)
    (hc : ∃ vo, wc.data = .cell vo) (hlen : ds0.length ≤ 63) (hm : m "script" = some (.ref w3)) (HH : Heads view K) (hesc : escIn K 40 = true) (he0 : nsIn K mainGlobals "_special_chars_map" = some (some (.ref 40))) (htw : twinIn K 62 = true)
    (ht0 : nsIn K mainGlobals "_twin_re_1" = some (some (.ref 62))) :
    wpAny (model prog w) (callerA.deeper (envOfC nm sc42 s₁.heap.objs.size fa cd)) (execs bd42 (envOfC nm sc42 s₁.heap.objs.size fa cd))
      (fun f s' => f = .ret (.bool true) ∧ (∀ b o, (ghostOf s₁.heap [(75, 71)]).get? b = some o → s'.heap.get? b = some o) ∧ s'.os = s₁.os ∧ s'.gens = s₁.gens ∧ GrownAll [(75, 71)] s'.heap) E ⟨h₁, s₁.gens, s₁.drawn, tk, s₁.os⟩ := by
  generalize hg : ghostOf s₁.heap [(75, 71)] = g₀ at *
  have hgh : ∀ b o, s₁.heap.get? b = some o → o ≠ tabObj #[] → g₀.get? b = some o := fun b o e hn => by rw [← hg]; exact ghost_get hT e hn
  generalize hL : s₁.heap.objs.size = L at *
  obtain ⟨n1, n2, n3⟩ := N (L + 1, wc) (by simp)
  obtain ⟨m1, m2, m3⟩ := N (71, tabObj #[]) (by simp)
  have hgL : g₀.get? L = none := Heap.get?_none_of_le F.above
  let G : Gl := mkG prog w g₀ mg mb 75 71 0 T'.g T'.b T'.nolimit m3 T'.builtins
  have H : Fns G.up := mkFns (Nat.zero_lt_one) HH X T hgh rfl
  obtain ⟨f, Te, hf⟩ := escIn_of (G := G.up) X hesc (mg_of X T'.g he0) (by decide)
  have Tw : TwinG G.up 62 := ⟨mg_of X T'.g ht0, twinIn_of X htw, hd, T'.bmain, fun h => h, fun h k => ⟨_, h, k⟩⟩
  have hL71 : L ≠ 71 := Ne.symm m2
  have hC71 : L + 1 ≠ 71 := fun e => by
    have n1' : h₁.get? (L + 1) = some wc := n1
    have m1' : h₁.get? 71 = some (tabObj #[]) := m1
    rw [e, m1'] at n1'
    cases n1'
    obtain ⟨vo, hv⟩ := hc
    cases hv
  let D : Dyn := ⟨callerA.deeper (envOfC nm sc42 L fa cd), envOfC nm sc42 L fa cd, fun b => b = L ∨ b = L + 1 ∨ b = 71⟩
  have hcells : D.env.cells = [(("pile" : Str), L + 1)] := cells42 L
  have memc : ∀ c ∈ D.env.cells, c = (("pile" : Str), L + 1) := fun c h => by rw [hcells] at h; exact List.mem_singleton.mp h
  have O : D.Ok G 6 sc42 := ⟨rfl, k42.1, rfl, rfl, ⟨Nat.le_of_ble_eq_true rfl, Nat.le_of_ble_eq_true rfl, rfl⟩, .inl rfl, fun c h => by rw [memc c h]; exact .inr (.inl rfl), .inr (.inr rfl), hgL, fun c h => by rw [memc c h]; exact n3, hL71, fun c h => by rw [memc c h]; exact hC71,
    fun c h => by rw [memc c h]; exact n2, by rw [hcells]; exact List.pairwise_singleton .., k42.2.2.2, fun h => by rw [notT42] at h; cases h⟩
  have hbad : ∀ b, Bad D (fun _ => none) b → b = L ∨ b = L + 1 ∨ b = 71 := by
    rintro b (h | ⟨k, h⟩)
    · exact h
    · cases h
  obtain ⟨ol, hol, hol2⟩ := id hls
  have hw3 : ¬ Bad D (fun _ => none) w3 := fun h => by
    rcases hbad w3 h with e | e | e
    · rw [e, hgL] at hol; cases hol
    · have n3' : g₀.get? (L + 1) = none := n3
      rw [e, n3'] at hol; cases hol
    · have m3' : g₀.get? 71 = none := m3
      rw [e, m3'] at hol; cases hol
  have hlt : L < h₁.objs.size := F.ns.lt
  have R : Rel G D (fun _ => none) [.arr (ds0.map .int), .unb, .unb, .unb, .unb, .unb, .unb, .unb, .unb, .unb] ⟨h₁, s₁.gens, s₁.drawn, tk, s₁.os⟩ := by
    refine ⟨F.keep, Nat.zero_le _, ⟨#[], m1, trivial⟩, fun b hb => ?_, ⟨m, F.ns, fun k x v e1 e2 e3 => ?_⟩, fun k x e1 => ?_, fun k a e => (by cases e), fun k k' a e => (by cases e)⟩
    · rcases hb with rfl | rfl | rfl
      · obtain ⟨o, _, _, e, _⟩ := F.ns; exact ⟨o, e⟩
      · exact ⟨_, n1⟩
      · exact ⟨_, m1⟩
    · match k, e2 with
      | 0, e2 =>
        cases e2
        have e1' : sc42.names[0]? = some (x, .local) := e1
        rw [(idx_at i42_script).1] at e1'
        cases e1'
        exact ⟨_, hm, w3, w2, rfl, hw3, IsList.mono hls fun o e => F.keep _ _ e, reps_of_ints hI⟩
      | 1, e2 => cases e2; exact absurd rfl e3
      | 2, e2 => cases e2; exact absurd rfl e3
      | 3, e2 => cases e2; exact absurd rfl e3
      | 4, e2 => cases e2; exact absurd rfl e3
      | 5, e2 => cases e2; exact absurd rfl e3
      | 6, e2 => cases e2; exact absurd rfl e3
      | 7, e2 => cases e2; exact absurd rfl e3
      | 8, e2 => cases e2; exact absurd rfl e3
      | 9, e2 => cases e2; exact absurd rfl e3
      | k + 10, e2 => cases e2
    · obtain ⟨e4, e5⟩ := cell42 ((x, .cell), k) (List.mem_zipIdx_iff_getElem?.mpr e1) rfl
      have e4' : k = 3 := e4
      have e5' : x = ("pile" : Str) := e5
      subst e4'; subst e5'
      obtain ⟨vo, hv⟩ := hc
      refine ⟨L + 1, vo, by rw [hcells]; rfl, ⟨wc, n1, hv⟩, fun v e2 e3 => ?_⟩
      cases e2; exact absurd rfl e3
  have hd6 : (ds0.take 6).length ≤ 6 := by rw [List.length_take]; omega
  have fin := x_first (G := G) (n := 6) (t := true) (F := sc42) (σ := [.arr (ds0.map .int), .unb, .unb, .unb, .unb, .unb, .unb, .unb, .unb, .unb]) (v := .list ((ds0.take 6).map .int)) (ss := bd42.drop 1) (Q := retOf (.bool true)) (D := D) (E := E) i42_draws
    (e_is (f_is (f_slice (hi := some (.Constant (.int 6) 0 ⟨351, 20, 351, 21⟩)) (pos := ⟨351, 12, 351, 22⟩) (p := ⟨351, 19, 351, 21⟩) (EP.loanA (e_var (pos := ⟨351, 12, 351, 18⟩) i42_script rfl rfl rfl d_script)) pp_none (pp_some e_int) (by rw [List.length_map]; omega)) (sl_to (by decide))).ep (by rw [← List.map_take]; rfl)) rfl (Nat.le_of_ble_eq_true rfl) (pos := ⟨351, 4, 351, 22⟩) (p := ⟨351, 4, 351, 9⟩) (fun _ _ => rfl)
    (s_law (n := 0) (p := 62) H Tw Te hf hd6) O R
  refine wpAny_mono fin (fun fl s' x => ?_) fun _ _ y => y
  obtain ⟨fo, σ', ow', x1, x2, x3, x4, x5⟩ := x
  obtain ⟨h', tk', e', _⟩ := x3
  cases fo with
  | next => exact absurd x5 (by simp [retOf])
  | brk => exact x5.elim
  | cont => exact x5.elim
  | ret v =>
    have hv : v = .bool true := x5
    subst hv
    cases fl with
    | ret val =>
      have hval : val = .bool true := x1
      obtain ⟨ps, t1, _⟩ := x2.tab
      refine ⟨by rw [hval], x2.keep, by rw [e'], by rw [e'], ⟨ps, t1⟩, trivial⟩
    | next => exact x1.elim
    | brk => exact x1.elim
    | cont => exact x1.elim
noncomputable def view0 : Program := view PySem.Challenge.pw_ik0128_01 [0, 1, 3, 4, 6, 8, 9, 10, 11, 13, 15, 17, 18, 20, 22, 24, 25, 26, 27, 28, 29, 31, 32, 33, 34, 35, 36, 37, 38, 39, 40, 41, 42]
noncomputable def loose0 : List Str := ["_special_chars_map", "_twin_re_1"]
noncomputable def isNN (K : Frag) (x : Str) : Bool := match nsIn K mainGlobals x with
  | some none => true
  | _ => false
noncomputable def isAt (K : Frag) (x : Str) (a : Addr) : Bool := match nsIn K mainGlobals x with
  | some (some (.ref b)) => Nat.beq b a
  | _ => false
theorem isNN_of {K : Frag} {x : Str} (h : isNN K x = true) : nsIn K mainGlobals x = some none := by
  unfold isNN at h
  split at h
  · assumption
  · cases h
theorem isAt_of {K : Frag} {x : Str} {a : Addr} (h : isAt K x a = true) : nsIn K mainGlobals x = some (some (.ref a)) := by
  unfold isAt at h
  split at h
  · rename_i b e
    rw [e, Nat.eq_of_beq_eq_true h]
  · cases h
noncomputable def nnL : List Str := ["isinstance", "str", "list", "map", "range", "len", "object", "type", "issubclass", "bytes"]
noncomputable def factsB (K : Frag) : Bool := noTabs K && nnL.all (isNN K) && isAt K "_special_chars_map" 40 && isAt K "_twin_re_1" 62 && escIn K 40 && twinIn K 62 && (tabIn K "_translate" == some (75, 71))
noncomputable def fragAt (h : Heap) : Frag := [3, 40, 61, 62, 75, 76].filterMap fun a => (h.get? a).map fun o => (a, o)
theorem fragAt_in (h : Heap) : (fragAt h).In h := fun a o e => by
  obtain ⟨b, _, q⟩ := List.mem_filterMap.mp (mem_of_lookupK e)
  obtain ⟨o', h1, h2⟩ := Option.map_eq_some_iff.mp q
  cases h2
  exact h1
noncomputable def hook0 : Hook where
  α := Bool
  obs := fun s => factsB (fragAt s.heap)
  val := fun _ => true
  says := fun _ h => ∃ K : Frag, K.In h ∧ factsB K = true
  of := fun _ _ e => ⟨_, fragAt_in _, e⟩
  keeps := fun _ _ _ ⟨K, a, b⟩ k => ⟨K, a.keeps k, b⟩
/-- the run of the top, by the library's quick readings of its parts -/
noncomputable def opQ (p : Program) (w : World) (N : Nat) : Option Shared :=
  (PySem.W.Fast.tw10274390034422433532 PySem.W.Fast.tw14364793385576792824 (opening p) w N (PySem.W.Fast.tw1435165496053646825 (opening p)).1 (PySem.W.Fast.tw1435165496053646825 (opening p)).2).bind (PySem.W.Fast.tw14289696077712309145 p)
noncomputable def topQ (p : Program) (w : World) (N : Nat) (s₀ : Shared) : Option Shared :=
  match s₀.heap.isNs mainGlobals && s₀.gens.size == 0 with
  | true => (PySem.W.Fast.tw14082659384304107361 PySem.W.Fast.tw14364793385576792824 p w s₀.heap.objs.size (PySem.W.Fast.tw8920871248978507458 s₀.heap mainGlobals "__annotations__") N s₀ (topStub p)).bind fun s₁ => match staticsOk (importedModules p.main.body) s₀.heap s₁.heap && namesBound p s₁.heap && gensDone s₁ && laidKept s₀.heap s₁.heap with
      | true => some s₁
      | false => none
  | false => none
theorem opQ_eq (p : Program) (w : World) (N : Nat) : fencedOpening treeTable p w N = opQ p w N := by
  unfold fencedOpening opQ
  rw [PySem.W.Fast.te10274390034422433532, PySem.W.Fast.te1435165496053646825, PySem.W.Fast.te14289696077712309145, PySem.W.Fast.te14364793385576792824]
theorem topQ_eq (p : Program) (w : World) (N : Nat) : topFrom treeTable p w N = topQ p w N := by
  funext s
  unfold topFrom topQ
  rw [PySem.W.Fast.te14082659384304107361, PySem.W.Fast.te8920871248978507458, PySem.W.Fast.te14364793385576792824]
  rfl
theorem left_of_q {p q : Program} {loose : List Str} {Xt : Shared → Bool} {Yf : Shared → Bool} {Ya : World → Bool} {N : Nat}
    (h : ∀ w, ((opQ p w N).bind (topQ p w N)).map (fun s => (PySem.W.Fast.tw4187177175401517315 q loose (importedModules p.main.body) Xt true s, Yf s)) = some (openGood q loose, Ya w)) : LeftO p q loose Xt Yf Ya N := fun w => by
  unfold openEnds
  rw [opQ_eq, topQ_eq, PySem.W.Fast.te4187177175401517315]
  exact h w
noncomputable abbrev Ok0 (w : World) : Prop := ((opQ PySem.Challenge.pw_ik0128_01 w 5772).bind (topQ PySem.Challenge.pw_ik0128_01 w 5772)).map (fun s => (PySem.W.Fast.tw4187177175401517315 view0 loose0 (importedModules PySem.Challenge.pw_ik0128_01.main.body) (fun s => xlAt view0 [] s && recOk [] s) true s, factsB (fragAt s.heap))) = some (openGood view0 loose0, true)
theorem ok_false_false (w : World) : Ok0 ((w.withFollow "special-get-raises" false).withFollow "comprehension-iter-twice" false) := by
  kernel_rfl
theorem ok_false_true (w : World) : Ok0 ((w.withFollow "special-get-raises" true).withFollow "comprehension-iter-twice" false) := by
  kernel_rfl
theorem ok_true_false (w : World) : Ok0 ((w.withFollow "special-get-raises" false).withFollow "comprehension-iter-twice" true) := by
  kernel_rfl
theorem ok_true_true (w : World) : Ok0 ((w.withFollow "special-get-raises" true).withFollow "comprehension-iter-twice" true) := by
  kernel_rfl
theorem left0 : LeftO PySem.Challenge.pw_ik0128_01 view0 loose0 (fun s => xlAt view0 [] s && recOk [] s) hook0.obs hook0.val 5772 := left_of_q (fun w =>
  byRow2 "comprehension-iter-twice" (P := Ok0) (byRow2 "special-get-raises" (P := fun w => Ok0 (w.withFollow "comprehension-iter-twice" false)) ok_false_false ok_false_true)
    (byRow2 "special-get-raises" (P := fun w => Ok0 (w.withFollow "comprehension-iter-twice" true)) ok_true_false ok_true_true) w)
theorem said0 : PySem.Challenge.rw_ik0128_01.wellSaid = true := by
  rw [PySem.W.Fast.te9446332074065402090]
  kernel_rfl
theorem wit0 : RowW.promised (OpenRow.toRowW PySem.Challenge.rw_ik0128_01.row) := by w_witness2
theorem nn_of {K : Frag} (h : nnL.all (isNN K) = true) {x : Str} (hx : nnL.contains x = true) : nsIn K mainGlobals x = some none :=
  isNN_of (List.all_eq_true.mp h x (List.contains_iff_mem.mp hx))
theorem heads0 {K : Frag} (h : nnL.all (isNN K) = true) (ht : tabIn K "_translate" = some (75, 71)) : Heads view0 K where
  r4 := by kernel_rfl
  r6 := by kernel_rfl
  r9 := by kernel_rfl
  r10 := by kernel_rfl
  r11 := by kernel_rfl
  r20 := by kernel_rfl
  r24 := by kernel_rfl
  r25 := by kernel_rfl
  r26 := by kernel_rfl
  r27 := by kernel_rfl
  r28 := by kernel_rfl
  r29 := by kernel_rfl
  r31 := by kernel_rfl
  r32 := by kernel_rfl
  r33 := by kernel_rfl
  r34 := by kernel_rfl
  r35 := by kernel_rfl
  r36 := by kernel_rfl
  r37 := by kernel_rfl
  r38 := by kernel_rfl
  r39 := by kernel_rfl
  r40 := by kernel_rfl
  r41 := by kernel_rfl
  n_isinstance := nn_of h (by decide +kernel)
  n_str := nn_of h (by decide +kernel)
  n_list := nn_of h (by decide +kernel)
  n_map := nn_of h (by decide +kernel)
  n_range := nn_of h (by decide +kernel)
  n_len := nn_of h (by decide +kernel)
  n_object := nn_of h (by decide +kernel)
  n_type := nn_of h (by decide +kernel)
  n_issubclass := nn_of h (by decide +kernel)
  n_bytes := nn_of h (by decide +kernel)
  tb := ht
end Mine
open Mine
theorem PySem.Challenge.cw_ik0128_01_holds : PySem.Challenge.rw_ik0128_01.Holds := by
  refine holds_law said0 fun _ => ?_
  refine holds_open (q := view0) (loose := loose0) (Xt := fun s => xlAt view0 [] s && recOk [] s) (XP := XL view0 []) (Yf := hook0.obs) (Ya := hook0.val) (YP := hook0.says) (N := 5772) left0 hook0.of hook0.keeps (fun s e => xl_of s (Bool.and_eq_true_iff.mp e).1) XL.keeps (by rfl) (by rfl) (by rfl) (fun s e => recFacts_of (Bool.and_eq_true_iff.mp e).2) (by rfl) (row_said said0) (by decide +kernel) ⟨rfl, rfl, rfl, rfl, rfl, by decide +kernel⟩ wit0 ?_
  k_fill
  intro w s₀ s₁ mg mb G Y fa o pm cd doc dV kV ho hd hcd hD hmg hg args vals as hpre hlay hrd hwl hlo
  obtain ⟨K, KX, FB⟩ := Y
  have V := (Ground.X G).2
  refine Ground.open G ?_
  intro T B D TE TW
  try (refine guard_noD D (by decide +kernel) ?_; clear D)
  simp only [factsB, Bool.and_eq_true, beq_iff_eq] at FB
  obtain ⟨⟨⟨⟨⟨⟨f1, f2⟩, f3⟩, f4⟩, f5⟩, f6⟩, f7⟩ := FB
  have hT9 : TabsAt ([(75, 71)] : List (Addr × Addr)) s₁.heap := List.forall_mem_cons.mpr ⟨tab_of (x := ("_translate" : Str)) (c := 75) (P := 71) T KX (d := recAt "_translate" 10) (by kernel_rfl) f7, fun _ h => nomatch h⟩
  clear hmg
  wrow_args hpre hlay hrd hwl hlo
  refine enter_call ?_
  w_top on
  kn_posts
  w_call any ho hd hcd hD T F
  clear hd
  rename News _ _ _ _ => N
  have l0 := ghost_lt hT9 F
  have C' := ghost_code hT9
  have X' := ghost_K hT9 KX f1
  have T' := ghost_top hT9 T
  have K' := ghost_below hT9
  have N' := ghost_news hT9 F N
  have F' := ghost_fr hT9 F
  kn_lists hT9
  kn_codes C'
  simp only [tabNews, List.map_cons, List.map_nil, List.nil_append, List.cons_append] at N'
  simp only [tabNews, List.map_cons, List.map_nil] at l0
  k_lt l0
  clear N KX F C'
  refine' wpAny_mono (entry (view := view0) (K := K) (hT := ?z1) (X := ?z2) (T' := ?z3) (T := ?z4) (F := ?z5) (N := ?z6) (hls := ?z7) (hI := ?z8) (hd := ?z9) (hc := ?z10) (hlen := ?z11) (hm := ?z12) (HH := heads0 f2 f7) (hesc := f5) (he0 := isAt_of f3) (htw := f6) (ht0 := isAt_of f4)) ?z18 (fun _ _ x => x)
  case z1 => assumption
  case z2 => assumption
  case z3 => assumption
  case z4 => assumption
  case z5 => assumption
  case z6 => assumption
  case z7 => assumption
  case z8 => assumption
  case z9 => assumption
  case z10 => exact ⟨_, by assumption⟩
  case z11 => omega
  case z12 => rfl
  case z18 =>
    rintro f s' ⟨rfl, k, ho, hg, gr⟩
    refine ⟨⟨.inl ⟨.bool true, .bool true, [], rfl, fun _ => rfl, ?_, ?_, fun _ => ⟨List.nodup_nil, fun a h => nomatch h⟩⟩, k, ho, hg.trans ?_⟩, gr⟩
    · constructor
    · first
        | kernel_rfl
        | (show (WShape.has _ (WData.bool true) .bool && WTm.holds _ (.eq .res (.lit (.bool true))) _) = true; simp [WShape.has, WTm.holds, WTm.value])
    · assumption
