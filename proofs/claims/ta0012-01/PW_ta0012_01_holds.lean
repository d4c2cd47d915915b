import PyProof.Rows.All
import Wide.All
import OpenK.AllK
import Wide.FinOn
import Lean
import PySem.Challenge.RW_ta0012_01
open PySem PySem.W PySem.Calls PyProof.Rows
set_option Elab.async false
set_option linter.unusedVariables false
set_option linter.unusedSectionVars false
set_option compiler.extract_closed false
set_option bootstrap.genMatcherCode false
set_option genSizeOf false
set_option genSizeOfSpec false
namespace Mine
set_option maxRecDepth 100000 in
set_option maxHeartbeats 8000000 in
open_top hd for PySem.Challenge.rw_ta0012_01
-- C1
set_option maxRecDepth 512
/-! ### data, and how a value bears it in a store of objects that are never changed -/
noncomputable abbrev Store := Addr → Option Obj

inductive D where
  | none
  | bool (b : Bool)
  | int (i : Int)
  | str (s : Str)
  | val (v : Value)
  | list (l : List D)
  | tup (l : List D)
  | rng (a b c : Int)

noncomputable abbrev lobj (vs : Array Value) (n : Nat) : Obj := { cls := .type "list", data := .seq vs n }
noncomputable abbrev tobj (vs : Array Value) (n : Nat) : Obj := { cls := .type "tuple", data := .seq vs n }

mutual
noncomputable def Rep (I : Store) : D → Value → Prop
  | .none, v => v = .none
  | .bool b, v => v = .bool b
  | .int i, v => ∃ t, v = .int i t
  | .str s, v => ∃ t, v = .str s t
  | .val u, v => v = u
  | .rng a b c, v => ∃ r t u x, v = .ref r ∧ I r = some { cls := .type "range", dict := none, data := .fields #[.int a t, .int b u, .int c x], slots := #[] }
  | .list l, v => ∃ a n vs, v = .ref a ∧ I a = some (lobj vs n) ∧ RepL I l vs.toList
  | .tup l, v => ∃ a n vs, v = .ref a ∧ I a = some (tobj vs n) ∧ RepL I l vs.toList
noncomputable def RepL (I : Store) : List D → List Value → Prop
  | [], vs => vs = []
  | d :: ds, vs => ∃ v r, vs = v :: r ∧ Rep I d v ∧ RepL I ds r
end

noncomputable def Sub (I J : Store) : Prop := ∀ b o, I b = some o → J b = some o
theorem Sub.refl (I : Store) : Sub I I := fun _ _ e => e
theorem Sub.trans {I J K : Store} (h : Sub I J) (g : Sub J K) : Sub I K := fun b o e => g b o (h b o e)

mutual
theorem Rep.mono {I J : Store} (h : Sub I J) : ∀ {d : D} {v : Value}, Rep I d v → Rep J d v
  | .none, _, r => r
  | .bool _, _, r => r
  | .int _, _, r => r
  | .str _, _, r => r
  | .val _, _, r => r
  | .rng _ _ _, _, r => let ⟨a, t, u, x, e, i⟩ := r; ⟨a, t, u, x, e, h _ _ i⟩
  | .list _, _, r => let ⟨a, n, vs, e, i, l⟩ := r; ⟨a, n, vs, e, h _ _ i, RepL.mono h l⟩
  | .tup _, _, r => let ⟨a, n, vs, e, i, l⟩ := r; ⟨a, n, vs, e, h _ _ i, RepL.mono h l⟩
theorem RepL.mono {I J : Store} (h : Sub I J) : ∀ {ds : List D} {vs : List Value}, RepL I ds vs → RepL J ds vs
  | [], _, r => r
  | _ :: _, _, r => let ⟨v, q, e, a, b⟩ := r; ⟨v, q, e, Rep.mono h a, RepL.mono h b⟩
end

theorem rep_int {I : Store} {i : Int} {v : Value} : Rep I (.int i) v ↔ ∃ t, v = .int i t := Iff.rfl
theorem rep_str {I : Store} {i : Str} {v : Value} : Rep I (.str i) v ↔ ∃ t, v = .str i t := Iff.rfl
theorem rep_bool {I : Store} {i : Bool} {v : Value} : Rep I (.bool i) v ↔ v = .bool i := Iff.rfl
theorem rep_none {I : Store} {v : Value} : Rep I .none v ↔ v = .none := Iff.rfl
theorem rep_rng {I : Store} {a b c : Int} {v : Value} : Rep I (.rng a b c) v ↔ ∃ r t u x, v = .ref r ∧ I r = some { cls := .type "range", dict := none, data := .fields #[.int a t, .int b u, .int c x], slots := #[] } := Iff.rfl
theorem rep_val {I : Store} {u v : Value} : Rep I (.val u) v ↔ v = u := Iff.rfl
theorem rep_list {I : Store} {l : List D} {v : Value} : Rep I (.list l) v ↔ ∃ a n vs, v = .ref a ∧ I a = some (lobj vs n) ∧ RepL I l vs.toList := Iff.rfl
theorem rep_tup {I : Store} {l : List D} {v : Value} : Rep I (.tup l) v ↔ ∃ a n vs, v = .ref a ∧ I a = some (tobj vs n) ∧ RepL I l vs.toList := Iff.rfl
theorem repL_nil {I : Store} {vs : List Value} : RepL I [] vs ↔ vs = [] := Iff.rfl
theorem repL_cons {I : Store} {d : D} {ds : List D} {vs : List Value} : RepL I (d :: ds) vs ↔ ∃ v r, vs = v :: r ∧ Rep I d v ∧ RepL I ds r := Iff.rfl
theorem repL_cons' {I : Store} {d : D} {ds : List D} {v : Value} {vs : List Value} : RepL I (d :: ds) (v :: vs) ↔ Rep I d v ∧ RepL I ds vs := by
  rw [repL_cons]
  constructor
  · rintro ⟨_, _, e, a, b⟩; cases e; exact ⟨a, b⟩
  · rintro ⟨a, b⟩; exact ⟨_, _, rfl, a, b⟩
theorem RepL.length {I : Store} : ∀ {ds : List D} {vs : List Value}, RepL I ds vs → vs.length = ds.length
  | [], vs, r => by rw [repL_nil] at r; subst r; rfl
  | d :: ds, vs, r => by obtain ⟨v, q, rfl, _, b⟩ := repL_cons.mp r; simp [b.length]
theorem RepL.get {I : Store} : ∀ {ds : List D} {vs : List Value}, RepL I ds vs → ∀ {i : Nat} {d : D}, ds[i]? = some d → ∃ v, vs[i]? = some v ∧ Rep I d v
  | [], vs, r, i, d, e => by simp at e
  | d :: ds, vs, r, i, d', e => by
    obtain ⟨v, q, rfl, a, b⟩ := repL_cons.mp r
    cases i with
    | zero => simp at e; subst e; exact ⟨v, rfl, a⟩
    | succ i => simp at e; obtain ⟨u, h, k⟩ := b.get e; exact ⟨u, by simpa using h, k⟩
theorem RepL.get' {I : Store} : ∀ {ds : List D} {vs : List Value}, RepL I ds vs → ∀ {i : Nat} {v : Value}, vs[i]? = some v → ∃ d, ds[i]? = some d ∧ Rep I d v
  | [], vs, r, i, d, e => by rw [repL_nil] at r; subst r; simp at e
  | d :: ds, vs, r, i, d', e => by
    obtain ⟨v, q, rfl, a, b⟩ := repL_cons.mp r
    cases i with
    | zero => simp at e; subst e; exact ⟨d, rfl, a⟩
    | succ i => simp at e; obtain ⟨u, h, k⟩ := b.get' e; exact ⟨u, by simpa using h, k⟩
theorem RepL.append {I : Store} : ∀ {ds es : List D} {vs us : List Value}, RepL I ds vs → RepL I es us → RepL I (ds ++ es) (vs ++ us)
  | [], _, vs, _, r, q => by rw [repL_nil] at r; subst r; exact q
  | d :: ds, _, vs, _, r, q => by
    obtain ⟨v, t, rfl, a, b⟩ := repL_cons.mp r
    exact repL_cons.mpr ⟨v, _, rfl, a, b.append q⟩
theorem RepL.take {I : Store} : ∀ (n : Nat) {ds : List D} {vs : List Value}, RepL I ds vs → RepL I (ds.take n) (vs.take n)
  | 0, _, _, _ => by simp [repL_nil]
  | n + 1, [], vs, r => by rw [repL_nil] at r; subst r; simp [repL_nil]
  | n + 1, d :: ds, vs, r => by
    obtain ⟨v, t, rfl, a, b⟩ := repL_cons.mp r
    exact repL_cons.mpr ⟨v, _, rfl, a, b.take n⟩
theorem RepL.drop {I : Store} : ∀ (n : Nat) {ds : List D} {vs : List Value}, RepL I ds vs → RepL I (ds.drop n) (vs.drop n)
  | 0, _, _, r => by simpa using r
  | n + 1, [], vs, r => by rw [repL_nil] at r; subst r; simp [repL_nil]
  | n + 1, d :: ds, vs, r => by
    obtain ⟨v, t, rfl, a, b⟩ := repL_cons.mp r
    simpa using b.drop n
theorem RepL.set {I : Store} : ∀ (n : Nat) {ds : List D} {vs : List Value} {d : D} {v : Value}, RepL I ds vs → Rep I d v → RepL I (ds.set n d) (vs.set n v)
  | _, [], vs, _, _, r, _ => by rw [repL_nil] at r; subst r; simp [repL_nil]
  | 0, d :: ds, vs, _, _, r, q => by
    obtain ⟨v, t, rfl, a, b⟩ := repL_cons.mp r
    exact repL_cons.mpr ⟨_, _, rfl, q, b⟩
  | n + 1, d :: ds, vs, _, _, r, q => by
    obtain ⟨v, t, rfl, a, b⟩ := repL_cons.mp r
    exact repL_cons.mpr ⟨_, _, rfl, a, b.set n q⟩

/-! ### how the state grows -/
structure Grow (s : Shared) (I : Store) (s' : Shared) (I' : Store) : Prop where
  same : ∃ h tk, s' = { s with heap := h, toks := tk }
  keep : ∀ b o, s.heap.get? b = some o → s'.heap.get? b = some o
  sub : Sub I I'
  sub' : Sub I' s'.heap.get?
  new : ∀ b o, I' b = some o → I b = some o ∨ s.heap.get? b = none

theorem Grow.refl {s : Shared} {I : Store} (h : Sub I s.heap.get?) : Grow s I s I :=
  ⟨⟨s.heap, s.toks, rfl⟩, fun _ _ e => e, .refl _, h, fun _ _ e => .inl e⟩
theorem Grow.tok {s : Shared} {I : Store} (h : Sub I s.heap.get?) (t : Nat) : Grow s I { s with toks := t } I :=
  ⟨⟨s.heap, t, rfl⟩, fun _ _ e => e, .refl _, h, fun _ _ e => .inl e⟩
theorem Grow.trans {s s₁ s₂ : Shared} {I I₁ I₂ : Store} (g : Grow s I s₁ I₁) (k : Grow s₁ I₁ s₂ I₂) : Grow s I s₂ I₂ := by
  obtain ⟨h, t, rfl⟩ := g.same
  obtain ⟨h', t', rfl⟩ := k.same
  refine ⟨⟨h', t', rfl⟩, fun b o e => k.keep b o (g.keep b o e), g.sub.trans k.sub, k.sub', fun b o e => ?_⟩
  rcases k.new b o e with q | q
  · exact g.new b o q
  · right
    cases hq : s.heap.get? b with
    | none => rfl
    | some x => rw [g.keep _ _ hq] at q; cases q
/-- the heap has changed, nothing is newly told -/
theorem Grow.heap {s : Shared} {I : Store} (h : Sub I s.heap.get?) {h' : Heap} {t : Nat} (k : ∀ b o, s.heap.get? b = some o → h'.get? b = some o) : Grow s I { s with heap := h', toks := t } I :=
  ⟨⟨h', t, rfl⟩, k, .refl _, fun b o e => k b o (h b o e), fun _ _ e => .inl e⟩

noncomputable def Store.put (I : Store) (a : Addr) (o : Obj) : Store := fun b => if b = a then some o else I b
theorem Store.put_self (I : Store) (a : Addr) (o : Obj) : I.put a o a = some o := by simp [Store.put]
/-- one new object, told -/
theorem Grow.put {s : Shared} {I : Store} (h : Sub I s.heap.get?) {h' : Heap} {t : Nat} {a : Addr} {o : Obj} (k : ∀ b o, s.heap.get? b = some o → h'.get? b = some o) (hn : s.heap.get? a = none)
    (ha : h'.get? a = some o) : Grow s I { s with heap := h', toks := t } (I.put a o) := by
  refine ⟨⟨h', t, rfl⟩, k, fun b x e => ?_, fun b x e => ?_, fun b x e => ?_⟩
  · unfold Store.put
    split
    · rename_i hb; subst hb; rw [h _ _ e] at hn; cases hn
    · exact e
  · unfold Store.put at e
    split at e
    · rename_i hb; subst hb; cases e; exact ha
    · exact k _ _ (h _ _ e)
  · unfold Store.put at e
    split at e
    · rename_i hb; subst hb; exact .inr hn
    · exact .inl e

-- C2
set_option maxRecDepth 512
/-- what is known of the program in every heap of its run -/
structure Gd where
  prog : Program
  w : World
  B : Heap → Prop
  keeps : ∀ {h h' : Heap}, B h → (∀ b o, h.get? b = some o → h'.get? b = some o) → B h'
  nolim : ∀ {h : Heap}, B h → h.NoLimit
  gl : List (Str × Value)
  glob : ∀ {h : Heap}, B h → ∀ x v, (x, v) ∈ gl → (x == ("__debug__" : Str)) = false ∧
    ((∃ mg, h.Ns mainGlobals mg ∧ mg x = some v) ∨ (∃ mg mb, h.Ns mainGlobals mg ∧ mg x = none ∧ h.Ns builtinsNs mb ∧ mb x = some v))

noncomputable abbrev Gd.M (G : Gd) : Model := model G.prog G.w

structure OkA (k : Nat) (A : Around) : Prop where
  handled : A.handled = none
  depth : A.depth + k ≤ 600
  units : A.units + 8 * k ≤ 2000
theorem OkA.le {k j : Nat} {A : Around} (h : OkA k A) (hj : j ≤ k) : OkA j A := ⟨h.1, by have := h.2; omega, by have := h.3; omega⟩
theorem OkA.in1 {k : Nat} {A : Around} (h : OkA (k + 1) A) : OkA k A.in1 := ⟨h.1, by have := h.2; simp; omega, by have := h.3; simp; omega⟩
theorem OkA.deeper {k : Nat} {A : Around} (h : OkA (k + 1) A) (env : Env) : OkA k (A.deeper env) :=
  ⟨h.1, by have := h.2; show A.depth + 1 + k ≤ 600; omega, by have := h.3; show A.units + 3 + 8 * k ≤ 2000; omega⟩

structure EnvOk (sc : Scope) (env : Env) : Prop where
  scope : env.scope = sc
  kind : sc.kind = .function
  globals : env.globals = mainGlobals
  builtins : env.builtins = builtinsNs

/-- a name of the frame (its own or a cell's) is bound to a value -/
noncomputable def Val (env : Env) (h : Heap) (x : Str) (v : Value) : Prop :=
  (env.kindOf x = some .local ∧ ∃ m, h.Ns env.locals m ∧ m x = some v) ∨
  ((env.kindOf x = some .cell ∨ (env.kindOf x = some .free ∧ (x == ("__classdict__" : Str)) = false)) ∧ ∃ c, env.cells.lookup x = some c ∧ h.IsCell c (some v))
theorem Val.keeps {env : Env} {h h' : Heap} {x : Str} {v : Value} (V : Val env h x v) (k : ∀ b o, h.get? b = some o → h'.get? b = some o) : Val env h' x v := by
  rcases V with ⟨a, m, n, e⟩ | ⟨a, c, l, y⟩
  · exact .inl ⟨a, m, n.keeps k, e⟩
  · exact .inr ⟨a, c, l, y.keeps k⟩
theorem Val.load {M : Model} {A : Around} {E : Value → Shared → Prop} {s : Shared} {env : Env} {x : Str} {v : Value} {Q : Value → Shared → Prop} (V : Val env s.heap x v) (hk : env.scope.kind = .function) (h : Q v s) :
    wpAny M A (loadName env x) Q E s := by
  rcases V with ⟨a, m, n, e⟩ | ⟨a, c, l, y⟩
  · exact wpAny_loadName_local hk a n e h
  · rcases a with a | ⟨a, b⟩
    · exact wpAny_loadName_cell hk a l y h
    · exact wpAny_loadName_free hk a l y h b

structure NIn (G : Gd) (env : Env) (ρ : List (Str × D)) (I : Store) (s : Shared) : Prop where
  base : G.B s.heap
  sub : Sub I s.heap.get?
  val : ∀ x d, (x, d) ∈ ρ → (x == ("__debug__" : Str)) = false ∧ ∃ v, Val env s.heap x v ∧ Rep I d v
theorem NIn.grow {G : Gd} {env : Env} {ρ : List (Str × D)} {I I' : Store} {s s' : Shared} (N : NIn G env ρ I s) (g : Grow s I s' I') : NIn G env ρ I' s' :=
  ⟨G.keeps N.base g.keep, g.sub', fun x d hx => let ⟨a, v, V, r⟩ := N.val x d hx; ⟨a, v, V.keeps g.keep, r.mono g.sub⟩⟩

/-- a long postcondition is hidden behind a variable: what is stored is shorter -/
theorem wpAny_gen {α : Type} {M : Model} {A : Around} {t : Sem α} {E : Value → Shared → Prop} {s : Shared} {R : α → Shared → Prop} (h : ∀ R' : α → Shared → Prop, (∀ v s', R v s' → R' v s') → wpAny M A t R' E s) : wpAny M A t R E s := h R fun _ _ x => x

noncomputable abbrev Bot : Value → Shared → Prop := fun _ _ => False
noncomputable def Res (s : Shared) (I : Store) (Q : D → Prop) : Value → Shared → Prop := fun v s' => ∃ I' d, Grow s I s' I' ∧ Rep I' d v ∧ Q d
noncomputable def ResL (s : Shared) (I : Store) (Q : List D → Prop) : List Value → Shared → Prop := fun v s' => ∃ I' d, Grow s I s' I' ∧ RepL I' d v ∧ Q d
noncomputable def ResB (s : Shared) (I : Store) (Q : Bool → Prop) : Bool → Shared → Prop := fun v s' => ∃ I', Grow s I s' I' ∧ Q v
theorem Res.of {s s₁ s' : Shared} {I I₁ : Store} {Q : D → Prop} {v : Value} (g : Grow s I s₁ I₁) (r : Res s₁ I₁ Q v s') : Res s I Q v s' := let ⟨J, d, k, a, b⟩ := r; ⟨J, d, g.trans k, a, b⟩
theorem ResL.of {s s₁ s' : Shared} {I I₁ : Store} {Q : List D → Prop} {v : List Value} (g : Grow s I s₁ I₁) (r : ResL s₁ I₁ Q v s') : ResL s I Q v s' := let ⟨J, d, k, a, b⟩ := r; ⟨J, d, g.trans k, a, b⟩
theorem ResB.of {s s₁ s' : Shared} {I I₁ : Store} {Q : Bool → Prop} {v : Bool} (g : Grow s I s₁ I₁) (r : ResB s₁ I₁ Q v s') : ResB s I Q v s' := let ⟨J, k, b⟩ := r; ⟨J, g.trans k, b⟩
theorem Res.one {s s' : Shared} {I I' : Store} {Q : D → Prop} {v : Value} {d : D} (g : Grow s I s' I') (r : Rep I' d v) (q : Q d) : Res s I Q v s' := ⟨I', d, g, r, q⟩

noncomputable def PE (G : Gd) (k : Nat) (sc : Scope) (ρ : List (Str × D)) (e : Expr) (Q : D → Prop) : Prop :=
  ∀ (A : Around) (env : Env) (I : Store) (s : Shared), OkA k A → EnvOk sc env → NIn G env ρ I s → wpAny G.M A (eval e env) (Res s I Q) Bot s
noncomputable def PL (G : Gd) (k : Nat) (sc : Scope) (ρ : List (Str × D)) (es : List Expr) (Q : List D → Prop) : Prop :=
  ∀ (A : Around) (env : Env) (I : Store) (s : Shared) (pos : Pos), OkA k A → EnvOk sc env → NIn G env ρ I s → wpAny G.M A (spliced (backTo pos (starEach es env))) (ResL s I Q) Bot s
noncomputable def TE (G : Gd) (k : Nat) (sc : Scope) (ρ : List (Str × D)) (e : Expr) (Q : Bool → Prop) : Prop :=
  ∀ (A : Around) (env : Env) (I : Store) (s : Shared), OkA k A → EnvOk sc env → NIn G env ρ I s → wpAny G.M A (isTrue e env (eval e env)) (ResB s I Q) Bot s
noncomputable def Op1 (G : Gd) (k : Nat) (t : Value → Sem Value) (a : D) (Q : D → Prop) : Prop :=
  ∀ (A : Around) (I : Store) (s : Shared) (v : Value), OkA k A → G.B s.heap → Sub I s.heap.get? → Rep I a v → wpAny G.M A (t v) (Res s I Q) Bot s
noncomputable def Op2 (G : Gd) (k : Nat) (t : Value → Value → Sem Value) (a b : D) (Q : D → Prop) : Prop :=
  ∀ (A : Around) (I : Store) (s : Shared) (v u : Value), OkA k A → G.B s.heap → Sub I s.heap.get? → Rep I a v → Rep I b u → wpAny G.M A (t v u) (Res s I Q) Bot s
noncomputable def OpL (G : Gd) (k : Nat) (t : List Value → Sem Value) (a : List D) (Q : D → Prop) : Prop :=
  ∀ (A : Around) (I : Store) (s : Shared) (vs : List Value), OkA k A → G.B s.heap → Sub I s.heap.get? → RepL I a vs → wpAny G.M A (t vs) (Res s I Q) Bot s
noncomputable def OpB (G : Gd) (k : Nat) (a : D) (Q : Bool → Prop) : Prop :=
  ∀ (A : Around) (I : Store) (s : Shared) (v : Value), OkA k A → G.B s.heap → Sub I s.heap.get? → Rep I a v → wpAny G.M A (truthy v) (ResB s I Q) Bot s

/-! ### what is to be shown behind a part: named, so that it is stored once -/
@[reducible] def Op2K (G : Gd) (k : Nat) (t : Value → Value → Sem Value) (a : D) (Q : D → Prop) : D → Prop := fun b => Op2 G k t a b Q
@[reducible] def Op1K (G : Gd) (k : Nat) (t : Value → Sem Value) (Q : D → Prop) : D → Prop := fun a => Op1 G k t a Q
@[reducible] def OpLK (G : Gd) (k : Nat) (t : List Value → Sem Value) (Q : D → Prop) : List D → Prop := fun ds => OpL G k t ds Q
@[reducible] def BinK (G : Gd) (k : Nat) (sc : Scope) (ρ : List (Str × D)) (r : Expr) (t : Value → Value → Sem Value) (Q : D → Prop) : D → Prop := fun a => PE G k sc ρ r (Op2K G k t a Q)
@[reducible] def IfK (G : Gd) (k : Nat) (sc : Scope) (ρ : List (Str × D)) (a b : Expr) (Q : D → Prop) : Bool → Prop := fun c => if c then PE G k sc ρ a Q else PE G k sc ρ b Q
@[reducible] def OrK1 (G : Gd) (k : Nat) (sc : Scope) (ρ : List (Str × D)) (b : Expr) (Q : D → Prop) (d : D) : Bool → Prop := fun c => if c then Q d else PE G k sc ρ b Q
@[reducible] def OrK (G : Gd) (k : Nat) (sc : Scope) (ρ : List (Str × D)) (b : Expr) (Q : D → Prop) : D → Prop := fun d => OpB G k d (OrK1 G k sc ρ b Q d)
@[reducible] def ConsQ (Q : List D → Prop) (d : D) : List D → Prop := fun ds => Q (d :: ds)
@[reducible] def ConsK (G : Gd) (k : Nat) (sc : Scope) (ρ : List (Str × D)) (es : List Expr) (Q : List D → Prop) : D → Prop := fun d => PL G k sc ρ es (ConsQ Q d)
@[reducible] def ListK (Q : D → Prop) : List D → Prop := fun ds => ds.length ≤ 1000 ∧ Q (.list ds)
@[reducible] def TupK (Q : D → Prop) : List D → Prop := fun ds => ds.length ≤ 1000 ∧ Q (.tup ds)
@[reducible] def TruK (Q : Bool → Prop) : D → Prop := fun d => ∃ c, d = .bool c ∧ Q c
@[reducible] def NotK (Q : Bool → Prop) : Bool → Prop := fun c => Q (!c)
@[reducible] def AndK (G : Gd) (k : Nat) (sc : Scope) (ρ : List (Str × D)) (e : Expr) (Q : Bool → Prop) : Bool → Prop := fun c => if c then TE G k sc ρ e Q else Q false
@[reducible] def OrTK (G : Gd) (k : Nat) (sc : Scope) (ρ : List (Str × D)) (e : Expr) (Q : Bool → Prop) : Bool → Prop := fun c => if c then Q true else TE G k sc ρ e Q
@[reducible] def ObK (G : Gd) (k : Nat) (Q : Bool → Prop) : D → Prop := fun d => OpB G k d Q

section
variable {G : Gd} {k : Nat} {sc : Scope} {ρ : List (Str × D)} {Q : D → Prop}

theorem PE.mono {e : Expr} {Q' : D → Prop} (h : PE G k sc ρ e Q) (hq : ∀ d, Q d → Q' d) : PE G k sc ρ e Q' := fun A env I s oa eo N =>
  wpAny_mono (h A env I s oa eo N) (fun _ _ ⟨J, d, g, r, q⟩ => ⟨J, d, g, r, hq d q⟩) fun _ _ x => x
theorem TE.mono {e : Expr} {Q Q' : Bool → Prop} (h : TE G k sc ρ e Q) (hq : ∀ d, Q d → Q' d) : TE G k sc ρ e Q' := fun A env I s oa eo N =>
  wpAny_mono (h A env I s oa eo N) (fun _ _ ⟨J, g, q⟩ => ⟨J, g, hq _ q⟩) fun _ _ x => x
theorem TE.det {e : Expr} {Q : Bool → Prop} {c : Bool} (h : TE G k sc ρ e fun x => x = c) (q : Q c) : TE G k sc ρ e Q := h.mono fun _ e => by rw [e]; exact q
theorem OpL.mono {t : List Value → Sem Value} {a : List D} {Q' : D → Prop} (h : OpL G k t a Q) (hq : ∀ d, Q d → Q' d) : OpL G k t a Q' := fun A I s vs oa b u r =>
  wpAny_mono (h A I s vs oa b u r) (fun _ _ ⟨J, d, g, r, q⟩ => ⟨J, d, g, r, hq d q⟩) fun _ _ x => x
theorem OpL.le {j : Nat} {t : List Value → Sem Value} {a : List D} (h : OpL G k t a Q) (hj : k ≤ j) : OpL G j t a Q := fun A I s vs oa b u r => h A I s vs (oa.le hj) b u r

theorem pe_int {i : Int} {n : Nat} {p : Pos} (h : Q (.int i)) : PE G k sc ρ (.Constant (.int i) n p) Q := fun _ _ _ _ _ _ N =>
  wpAny_Constant_int (Res.one (Grow.tok N.sub _) (rep_int.mpr ⟨_, rfl⟩) h)
theorem pe_str {i : Str} {n : Nat} {p : Pos} (h : Q (.str i)) : PE G k sc ρ (.Constant (.str i) n p) Q := fun _ _ _ _ _ _ N =>
  Constant_str (Res.one (Grow.tok N.sub _) (rep_str.mpr ⟨_, rfl⟩) h)
theorem pe_bool {i : Bool} {n : Nat} {p : Pos} (h : Q (.bool i)) : PE G k sc ρ (.Constant (.bool i) n p) Q := fun _ _ _ _ _ _ N =>
  Constant_bool (Res.one (Grow.refl N.sub) (rep_bool.mpr rfl) h)
theorem pe_none {n : Nat} {p : Pos} (h : Q .none) : PE G k sc ρ (.Constant .none n p) Q := fun _ _ _ _ _ _ N =>
  Constant_none (Res.one (Grow.refl N.sub) (rep_none.mpr rfl) h)
theorem pe_name {x : Str} {d : D} {p : Pos} (hx : (x, d) ∈ ρ) (h : Q d) : PE G k sc ρ (.Name x p) Q := fun _ _ _ _ _ eo N =>
  let ⟨a, _, V, r⟩ := N.val x d hx
  wpAny_Name (V.load (eo.scope ▸ eo.kind) (Res.one (Grow.refl N.sub) r h)) a
theorem pe_glob {x : Str} {v : Value} {d : D} {p : Pos} (hx : (x, v) ∈ G.gl) (hk : sc.names.lookup x = some .globalImplicit) (hr : ∀ I, Rep I d v) (h : Q d) : PE G k sc ρ (.Name x p) Q := fun A env I s oa eo N => by
  obtain ⟨a, b⟩ := G.glob N.base x v hx
  have hk' : env.kindOf x = some .globalImplicit := by rw [Env.kindOf, eo.scope]; exact hk
  refine Name_function_global (by rw [eo.scope]; exact eo.kind) hk' ?_ a
  rcases b with ⟨mg, n, e⟩ | ⟨mg, mb, n, e, n', e'⟩
  · exact loadGlobal_global (by rw [eo.globals]; exact n) e (Res.one (Grow.refl N.sub) (hr I) h)
  · exact loadGlobal_builtin (by rw [eo.globals]; exact n) e (by rw [eo.builtins]; exact n') e' (Res.one (Grow.refl N.sub) (hr I) h)

/-- the two steps of every rule: behind the first part the second -/
theorem then_PE {A : Around} {env : Env} {I : Store} {s : Shared} {e : Expr} {P : D → Prop} {R : Value → Shared → Prop} (h : PE G k sc ρ e P) (oa : OkA k A) (eo : EnvOk sc env) (N : NIn G env ρ I s)
    (f : ∀ v s₁ I₁ d, Grow s I s₁ I₁ → NIn G env ρ I₁ s₁ → Rep I₁ d v → P d → R v s₁) : wpAny G.M A (eval e env) R Bot s :=
  wpAny_mono (h A env I s oa eo N) (fun v s₁ ⟨J, d, g, r, q⟩ => f v s₁ J d g (N.grow g) r q) fun _ _ x => x

theorem pe_binop {l r : Expr} {op : Operator} {p : Pos} (h : PE G k sc ρ l (BinK G k sc ρ r (binaryOp op) Q)) : PE G k sc ρ (.BinOp l op r p) Q := fun _ _ _ _ oa eo N =>
  wpAny_BinOp (then_PE h oa eo N fun _ _ _ _ g₁ N₁ r₁ q₁ => then_PE q₁ oa eo N₁ fun _ _ _ _ g₂ N₂ r₂ q₂ =>
    wpAny_mono (q₂ _ _ _ _ _ oa N₂.base N₂.sub (r₁.mono g₂.sub) r₂) (fun _ _ x => .of g₁ (.of g₂ x)) fun _ _ x => x)
theorem pe_compare {l r : Expr} {op : CmpOp} {p : Pos} (h : PE G k sc ρ l (BinK G k sc ρ r (compareOp op) Q)) (hm : behindInMarks op r = false := by with_unfolding_all rfl) :
    PE G k sc ρ (.Compare l [op] [r] p) Q := fun _ _ _ _ oa eo N =>
  wpAny_Compare1 (then_PE h oa eo N fun _ _ _ _ g₁ N₁ r₁ q₁ => then_PE q₁ oa eo N₁ fun _ _ _ _ g₂ N₂ r₂ q₂ =>
    wpAny_mono (q₂ _ _ _ _ _ oa N₂.base N₂.sub (r₁.mono g₂.sub) r₂) (fun _ _ x => .of g₁ (.of g₂ x)) fun _ _ x => x) hm
theorem pe_subscript {l r : Expr} {p : Pos} (h : PE G k sc ρ l (BinK G k sc ρ r (subscriptTail l r) Q)) : PE G k sc ρ (.Subscript l r p) Q := fun _ _ _ _ oa eo N =>
  Subscript_ (then_PE h oa eo N fun _ _ _ _ g₁ N₁ r₁ q₁ => then_PE q₁ oa eo N₁ fun _ _ _ _ g₂ N₂ r₂ q₂ =>
    wpAny_mono (q₂ _ _ _ _ _ oa N₂.base N₂.sub (r₁.mono g₂.sub) r₂) (fun _ _ x => .of g₁ (.of g₂ x)) fun _ _ x => x)
theorem pe_unary {l : Expr} {op : UnaryOp} {p : Pos} (h : PE G k sc ρ l (Op1K G k (unaryOp op) Q)) : PE G k sc ρ (.UnaryOp op l p) Q := fun _ _ _ _ oa eo N =>
  UnaryOp_ (then_PE h oa eo N fun _ _ _ _ g₁ N₁ r₁ q₁ => wpAny_mono (q₁ _ _ _ _ oa N₁.base N₁.sub r₁) (fun _ _ x => .of g₁ x) fun _ _ x => x)
theorem pe_ifexp {t a b : Expr} {p : Pos} (h : TE G k sc ρ t (IfK G k sc ρ a b Q)) : PE G k sc ρ (.IfExp t a b p) Q := fun A env I s oa eo N =>
  IfExp_ (wpAny_mono (h A env I s oa eo N) (fun c s₁ ⟨J, g, q⟩ => by
    cases c with
    | true => exact wpAny_mono (q A env J s₁ oa eo (N.grow g)) (fun _ _ x => .of g x) fun _ _ x => x
    | false => exact wpAny_mono (q A env J s₁ oa eo (N.grow g)) (fun _ _ x => .of g x) fun _ _ x => x) fun _ _ x => x)
theorem pe_or {a b : Expr} {p : Pos} (h : PE G k sc ρ a (OrK G k sc ρ b Q)) : PE G k sc ρ (.BoolOp .Or [a, b] p) Q := fun A env I s oa eo N =>
  BoolOp_or (then_PE h oa eo N fun v s₁ I₁ d g₁ N₁ r₁ q₁ => wpAny_mono (q₁ _ _ _ _ oa N₁.base N₁.sub r₁) (fun c s₂ ⟨J, g₂, q₂⟩ => by
    cases c with
    | true => exact ⟨J, d, g₁.trans g₂, r₁.mono g₂.sub, q₂⟩
    | false => exact wpAny_mono (q₂ A env J s₂ oa eo (N₁.grow g₂)) (fun _ _ x => .of g₁ (.of g₂ x)) fun _ _ x => x) fun _ _ x => x)

theorem pl_nil {Q : List D → Prop} (h : Q []) : PL G k sc ρ [] Q := fun _ _ _ _ _ _ _ N => args_nil ⟨_, [], Grow.refl N.sub, repL_nil.mpr rfl, h⟩
theorem pl_cons {Q : List D → Prop} {e : Expr} {es : List Expr} (h : PE G k sc ρ e (ConsK G k sc ρ es Q)) (he : ∀ env, starEach (e :: es) env = (false, eval e env) :: starEach es env := by intro _; rfl) :
    PL G k sc ρ (e :: es) Q := fun A env _ _ pos oa eo N =>
  args_cons (then_PE h oa eo N fun _ _ _ _ g₁ N₁ r₁ q₁ => wpAny_mono (q₁ A env _ _ pos oa eo N₁) (fun vs _ ⟨J, ds, g₂, r₂, q₂⟩ =>
    ⟨J, _ :: ds, g₁.trans g₂, repL_cons.mpr ⟨_, vs, rfl, r₁.mono g₂.sub, r₂⟩, q₂⟩) fun _ _ x => x) (he env)

theorem fresh_size (s : Shared) : s.heap.get? s.heap.objs.size = none := by
  cases e : s.heap.get? s.heap.objs.size with
  | none => rfl
  | some o => exact absurd (Heap.lt_size e) (Nat.lt_irrefl _)

theorem pe_list {es : List Expr} {p : Pos} (h : PL G k sc ρ es (ListK Q)) : PE G k sc ρ (.List es p) Q := fun A env I s oa eo N =>
  List_ (wpAny_mono (h A env I s p oa eo N) (fun vs s₁ ⟨J, ds, g, r, hl, q⟩ => by
    refine wpAny_newObj_type ?_ (by show vs.toArray.size ≤ sizeLine; rw [List.size_toArray, r.length]; exact Nat.le_trans hl (by decide))
    have g₂ := Grow.put (t := s₁.toks) g.sub' (fun b o e => Heap.get?_push_of_some (h := s₁.heap) { cls := .type "list", data := .seq vs.toArray } e) (fresh_size s₁) (Heap.get?_push_size _ rfl)
    refine ⟨_, .list ds, g.trans g₂, rep_list.mpr ⟨_, _, _, rfl, Store.put_self _ _ _, ?_⟩, q⟩
    exact r.mono g₂.sub) fun _ _ x => x)
theorem pe_tuple {es : List Expr} {n : Nat} {p : Pos} (h : PL G k sc ρ es (TupK Q)) : PE G k sc ρ (.Tuple es n p) Q := fun A env I s oa eo N =>
  Tuple_ (wpAny_mono (h A env I s p oa eo N) (fun vs s₁ ⟨J, ds, g, r, hl, q⟩ => by
    refine wpAny_newObj_type ?_ (by show vs.toArray.size ≤ sizeLine; rw [List.size_toArray, r.length]; exact Nat.le_trans hl (by decide))
    have g₂ := Grow.put (t := s₁.toks) g.sub' (fun b o e => Heap.get?_push_of_some (h := s₁.heap) { cls := .type "tuple", data := .seq vs.toArray } e) (fresh_size s₁) (Heap.get?_push_size _ rfl)
    refine ⟨_, .tup ds, g.trans g₂, rep_tup.mpr ⟨_, _, _, rfl, Store.put_self _ _ _, ?_⟩, q⟩
    exact r.mono g₂.sub) fun _ _ x => x)

/-! ### tests -/
theorem te_compare {l r : Expr} {op : CmpOp} {p : Pos} {Q : Bool → Prop} (h : PE G k sc ρ l (BinK G k sc ρ r (compareOp op) (TruK Q))) (hm : behindInMarks op r = false := by with_unfolding_all rfl) :
    TE G k sc ρ (.Compare l [op] [r] p) Q := fun _ _ _ _ oa eo N =>
  wpAny_isTrue_Compare1 (then_PE h oa eo N fun _ _ _ _ g₁ N₁ r₁ q₁ => then_PE q₁ oa eo N₁ fun _ _ _ _ g₂ N₂ r₂ q₂ =>
    wpAny_mono (q₂ _ _ _ _ _ oa N₂.base N₂.sub (r₁.mono g₂.sub) r₂) (fun v s₃ ⟨J, d, g₃, r₃, c, hd, q₃⟩ => by
      subst hd
      rw [rep_bool] at r₃
      subst r₃
      exact wpAny_truthy_bool ⟨J, g₁.trans (g₂.trans g₃), q₃⟩) fun _ _ x => x) hm
theorem te_not {e : Expr} {p : Pos} {Q : Bool → Prop} (h : TE G k sc ρ e (NotK Q)) : TE G k sc ρ (.UnaryOp .Not e p) Q := fun A env I s oa eo N =>
  isTrue_not (wpAny_mono (h A env I s oa eo N) (fun _ _ ⟨J, g, q⟩ => ⟨J, g, q⟩) fun _ _ x => x)
theorem te_and_nil {p : Pos} {Q : Bool → Prop} (h : Q true) : TE G k sc ρ (.BoolOp .And [] p) Q := fun _ _ _ _ _ _ N => isTrue_and_nil ⟨_, Grow.refl N.sub, h⟩
theorem te_or_nil {p : Pos} {Q : Bool → Prop} (h : Q false) : TE G k sc ρ (.BoolOp .Or [] p) Q := fun _ _ _ _ _ _ N => isTrue_or_nil ⟨_, Grow.refl N.sub, h⟩
theorem te_and {e : Expr} {es : List Expr} {p : Pos} {Q : Bool → Prop} (h : TE G k sc ρ e (AndK G k sc ρ (.BoolOp .And es p) Q)) : TE G k sc ρ (.BoolOp .And (e :: es) p) Q := fun A env I s oa eo N =>
  isTrue_and (wpAny_mono (h A env I s oa eo N) (fun c s₁ ⟨J, g, q⟩ => by
    cases c with
    | true => exact wpAny_mono (q A env J s₁ oa eo (N.grow g)) (fun _ _ x => .of g x) fun _ _ x => x
    | false => exact ⟨J, g, q⟩) fun _ _ x => x)
theorem te_or {e : Expr} {es : List Expr} {p : Pos} {Q : Bool → Prop} (h : TE G k sc ρ e (OrTK G k sc ρ (.BoolOp .Or es p) Q)) : TE G k sc ρ (.BoolOp .Or (e :: es) p) Q := fun A env I s oa eo N =>
  isTrue_or (wpAny_mono (h A env I s oa eo N) (fun c s₁ ⟨J, g, q⟩ => by
    cases c with
    | true => exact ⟨J, g, q⟩
    | false => exact wpAny_mono (q A env J s₁ oa eo (N.grow g)) (fun _ _ x => .of g x) fun _ _ x => x) fun _ _ x => x)
theorem te_plain {e : Expr} {Q : Bool → Prop} (h : PE G k sc ρ e (ObK G k Q)) (he : ∀ env whole, isTrue e env whole = (do let v ← whole; standAt e.pos; holding [v] (truthy v)) := by intro _ _; rfl) : TE G k sc ρ e Q := fun A env I s oa eo N =>
  isTrue_plain (then_PE h oa eo N fun v s₁ I₁ d g₁ N₁ r₁ q₁ => wpAny_mono (q₁ _ _ _ _ oa N₁.base N₁.sub r₁) (fun _ _ x => .of g₁ x) fun _ _ x => x) (he env _)
end

-- C3
set_option maxRecDepth 512
inductive Cell where
  | no
  | imm (d : D)
  | own (l : List D)

noncomputable abbrev Sto := List (Str × Cell)

noncomputable def immR : Sto → List (Str × D)
  | [] => []
  | (x, .imm d) :: r => (x, d) :: immR r
  | (_, .no) :: r => immR r
  | (_, .own _) :: r => immR r
noncomputable def fullR : Sto → List (Str × D)
  | [] => []
  | (x, .imm d) :: r => (x, d) :: fullR r
  | (_, .no) :: r => fullR r
  | (x, .own l) :: r => (x, .list l) :: fullR r
theorem mem_immR : ∀ {σ : Sto} {x : Str} {d : D}, (x, d) ∈ immR σ → (x, Cell.imm d) ∈ σ
  | (y, .imm e) :: r, x, d, h => by
    rcases List.mem_cons.mp h with h | h
    · cases h; exact .head _
    · exact .tail _ (mem_immR h)
  | (_, .no) :: r, x, d, h => .tail _ (mem_immR (σ := r) h)
  | (_, .own _) :: r, x, d, h => .tail _ (mem_immR (σ := r) h)
theorem mem_fullR : ∀ {σ : Sto} {x : Str} {d : D}, (x, d) ∈ fullR σ → (x, Cell.imm d) ∈ σ ∨ ∃ l, d = .list l ∧ (x, Cell.own l) ∈ σ
  | (y, .imm e) :: r, x, d, h => by
    rcases List.mem_cons.mp h with h | h
    · cases h; exact .inl (.head _)
    · exact (mem_fullR (σ := r) h).imp (.tail _) fun ⟨l, a, b⟩ => ⟨l, a, .tail _ b⟩
  | (_, .no) :: r, x, d, h => (mem_fullR (σ := r) h).imp (.tail _) fun ⟨l, a, b⟩ => ⟨l, a, .tail _ b⟩
  | (_, .own l) :: r, x, d, h => by
    rcases List.mem_cons.mp h with h | h
    · cases h; exact .inr ⟨l, rfl, .head _⟩
    · exact (mem_fullR (σ := r) h).imp (.tail _) fun ⟨l, a, b⟩ => ⟨l, a, .tail _ b⟩

theorem mem_set_of {σ : Sto} {i : Nat} {x : Str} {c c0 : Cell} (hi : σ[i]? = some (x, c0)) (hnd : (σ.map Prod.fst).Nodup) :
    ∀ {y : Str} {d : Cell}, (y, d) ∈ σ.set i (x, c) → (y = x ∧ d = c) ∨ ((y, d) ∈ σ ∧ y ≠ x) := by
  induction σ generalizing i with
  | nil => simp at hi
  | cons p r ih =>
    intro y d h
    have hnd' := List.nodup_cons.mp hnd
    cases i with
    | zero =>
      simp at hi; subst hi
      simp only [List.set_cons_zero] at h
      rcases List.mem_cons.mp h with h | h
      · cases h; exact .inl ⟨rfl, rfl⟩
      · exact .inr ⟨.tail _ h, fun e => hnd'.1 (List.mem_map.mpr ⟨(y, d), h, e⟩)⟩
    | succ i =>
      simp at hi
      simp only [List.set_cons_succ] at h
      rcases List.mem_cons.mp h with h | h
      · refine .inr ⟨by rw [h]; exact .head _, fun e => ?_⟩
        have : p.1 = x := by rw [← h]; exact e
        exact hnd'.1 (this ▸ List.mem_map.mpr ⟨_, List.mem_of_getElem? hi, rfl⟩)
      · rcases ih hi hnd'.2 h with q | ⟨q, w⟩
        · exact .inl q
        · exact .inr ⟨.tail _ q, w⟩
theorem set_fst {σ : Sto} {i : Nat} {x : Str} {c c0 : Cell} (hi : σ[i]? = some (x, c0)) : (σ.set i (x, c)).map Prod.fst = σ.map Prod.fst := by
  induction σ generalizing i with
  | nil => rfl
  | cons p r ih =>
    cases i with
    | zero => simp at hi; subst hi; rfl
    | succ i => simp at hi; simp [ih hi]

/-- the value that a name has, by its kind -/
noncomputable def cur (env : Env) (m cm : Str → Option Value) (x : Str) : Option Value := if env.kindOf x = some .local then m x else cm x

structure OwnAt (env : Env) (T : List Addr) (I : Store) (h : Heap) (a : Addr) (l : List D) : Prop where
  mem : a ∈ T
  loc : a ≠ env.locals
  cell : ∀ n c, env.cells.lookup n = some c → c ≠ a
  obj : ∃ n vs, h.get? a = some (lobj vs n) ∧ RepL I l vs.toList

noncomputable def CRep (env : Env) (T : List Addr) (I : Store) (h : Heap) : Cell → Option Value → Prop
  | .no, _ => True
  | .imm d, u => ∃ v, u = some v ∧ Rep I d v
  | .own l, u => ∃ a, u = some (.ref a) ∧ OwnAt env T I h a l

structure SIn (G : Gd) (h₀ : Heap) (env : Env) (T : List Addr) (I : Store) (σ : Sto) (s : Shared) : Prop where
  base : G.B h₀ ∧ (∀ b o, h₀.get? b = some o → s.heap.get? b = some o) ∧ ∀ b ∈ T, h₀.get? b = none
  sub : Sub I s.heap.get?
  out : ∀ b ∈ T, I b = none
  kind : env.scope.kind = .function
  nodup : (σ.map Prod.fst).Nodup
  kinds : ∀ x ∈ σ.map Prod.fst, (x == ("__debug__" : Str)) = false ∧ (env.kindOf x = some .local ∨ (env.kindOf x = some .cell ∧ ∃ c, env.cells.lookup x = some c))
  loc : env.locals ∈ T
  live : ∀ b ∈ T, s.heap.get? b ≠ none
  cells : ∀ n c, env.cells.lookup n = some c → c ∈ T ∧ c ≠ env.locals
  apart : ∀ n n' c, env.cells.lookup n = some c → env.cells.lookup n' = some c → n = n'
  names : ∃ m cm, s.heap.Ns env.locals m ∧ (∀ n c, env.cells.lookup n = some c → s.heap.IsCell c (cm n)) ∧ (∀ x c, (x, c) ∈ σ → CRep env T I s.heap c (cur env m cm x)) ∧
    ∀ x l y l', (x, Cell.own l) ∈ σ → (y, Cell.own l') ∈ σ → x ≠ y → cur env m cm x ≠ cur env m cm y

/-- the steps of a frame: what is not its own stays -/
structure Tr (T : List Addr) (I : Store) (s : Shared) (T' : List Addr) (I' : Store) (s' : Shared) : Prop where
  same : ∃ h tk, s' = { s with heap := h, toks := tk }
  keep : ∀ b o, b ∉ T → s.heap.get? b = some o → s'.heap.get? b = some o
  alive : ∀ b, s'.heap.get? b = none → s.heap.get? b = none
  sub : Sub I I'
  new : ∀ b o, I' b = some o → I b = some o ∨ b ∈ T ∨ s.heap.get? b = none
  newT : ∀ b ∈ T', b ∈ T ∨ s.heap.get? b = none
theorem Tr.refl (T : List Addr) (I : Store) (s : Shared) : Tr T I s T I s := ⟨⟨s.heap, s.toks, rfl⟩, fun _ _ _ e => e, fun _ e => e, .refl _, fun _ _ e => .inl e, fun _ e => .inl e⟩
theorem Tr.trans {T T₁ T₂ : List Addr} {I I₁ I₂ : Store} {s s₁ s₂ : Shared} (x : Tr T I s T₁ I₁ s₁) (y : Tr T₁ I₁ s₁ T₂ I₂ s₂) : Tr T I s T₂ I₂ s₂ := by
  refine ⟨?_, fun b o hb e => ?_, fun b e => x.alive b (y.alive b e), x.sub.trans y.sub, fun b o e => ?_, fun b e => ?_⟩
  · obtain ⟨h, t, rfl⟩ := x.same
    obtain ⟨h', t', rfl⟩ := y.same
    exact ⟨h', t', rfl⟩
  · refine y.keep b o (fun q => ?_) (x.keep b o hb e)
    rcases x.newT b q with q | q
    · exact hb q
    · rw [e] at q; cases q
  · rcases y.new b o e with q | q | q
    · exact x.new b o q
    · exact .inr (x.newT b q)
    · exact .inr (.inr (x.alive b q))
  · rcases y.newT b e with q | q
    · exact x.newT b q
    · exact .inr (x.alive b q)
theorem Tr.of_grow {T : List Addr} {I I' : Store} {s s' : Shared} (g : Grow s I s' I') : Tr T I s T I' s' :=
  ⟨g.same, fun b o _ e => g.keep b o e, (fun b e => by
    cases h : s.heap.get? b with
    | none => rfl
    | some o => rw [g.keep b o h] at e; cases e), g.sub, fun b o e => (g.new b o e).imp id .inr, fun b e => .inl e⟩

theorem CRep.mono {env : Env} {T : List Addr} {I I' : Store} {h h' : Heap} {c : Cell} {u : Option Value} (r : CRep env T I h c u) (hs : Sub I I') (hk : ∀ a l, c = .own l → u = some (.ref a) → ∀ o, h.get? a = some o → h'.get? a = some o) : CRep env T I' h' c u := by
  cases c with
  | no => trivial
  | imm d => obtain ⟨v, e, r⟩ := r; exact ⟨v, e, r.mono hs⟩
  | own l =>
    obtain ⟨a, e, y⟩ := r
    obtain ⟨n, vs, g1, g4⟩ := y.obj
    exact ⟨a, e, y.mem, y.loc, y.cell, n, vs, hk a l rfl e _ g1, g4.mono hs⟩

theorem SIn.grow {G : Gd} {h₀ : Heap} {env : Env} {T : List Addr} {I I' : Store} {σ : Sto} {s s' : Shared} (S : SIn G h₀ env T I σ s) (g : Grow s I s' I') : SIn G h₀ env T I' σ s' := by
  obtain ⟨m, cm, ns, cl, rp, ap⟩ := S.names
  obtain ⟨b0, b1, b2⟩ := S.base
  refine ⟨⟨b0, fun b o e => g.keep b o (b1 b o e), b2⟩, g.sub', fun b hb => ?_, S.kind, S.nodup, S.kinds, S.loc, fun b hb e => ?_, S.cells, S.apart, m, cm, ns.keeps g.keep, fun n c e => (cl n c e).keeps g.keep, fun x c hx => (rp x c hx).mono g.sub fun a l _ _ o e => g.keep a o e, ap⟩
  · cases e : I' b with
    | none => rfl
    | some o =>
      rcases g.new b o e with q | q
      · rw [S.out b hb] at q; cases q
      · exact absurd q (S.live b hb)
  · cases h : s.heap.get? b with
    | none => exact S.live b hb h
    | some o => rw [g.keep b o h] at e; cases e

theorem SIn.immN {G : Gd} {h₀ : Heap} {env : Env} {T : List Addr} {I : Store} {σ : Sto} {s : Shared} (S : SIn G h₀ env T I σ s) : NIn G env (immR σ) I s := by
  obtain ⟨m, cm, ns, cl, rp, ap⟩ := S.names
  obtain ⟨b0, b1, b2⟩ := S.base
  refine ⟨G.keeps b0 b1, S.sub, fun x d hx => ?_⟩
  have hx := mem_immR hx
  obtain ⟨v, e, r⟩ := rp _ _ hx
  obtain ⟨k1, k2⟩ := S.kinds x (List.mem_map.mpr ⟨_, hx, rfl⟩)
  refine ⟨k1, v, ?_, r⟩
  unfold cur at e
  rcases k2 with k2 | ⟨k2, c, k3⟩
  · rw [if_pos k2] at e; exact .inl ⟨k2, m, ns, e⟩
  · rw [if_neg (by rw [k2]; decide)] at e
    exact .inr ⟨.inl k2, c, k3, e ▸ cl x c k3⟩

/-- the store with the frame's own lists -/
noncomputable def fullS (T : List Addr) (I : Store) (s : Shared) : Store := fun b => if b ∈ T then s.heap.get? b else I b
theorem fullS_sub {T : List Addr} {I : Store} {s : Shared} (h : Sub I s.heap.get?) : Sub (fullS T I s) s.heap.get? := fun b o e => by
  unfold fullS at e
  split at e
  · exact e
  · exact h b o e
theorem sub_fullS {T : List Addr} {I : Store} {s : Shared} (h : Sub I s.heap.get?) : Sub I (fullS T I s) := fun b o e => by
  unfold fullS
  split
  · exact h b o e
  · exact e
theorem SIn.fullN {G : Gd} {h₀ : Heap} {env : Env} {T : List Addr} {I : Store} {σ : Sto} {s : Shared} (S : SIn G h₀ env T I σ s) : NIn G env (fullR σ) (fullS T I s) s := by
  obtain ⟨m, cm, ns, cl, rp, ap⟩ := S.names
  obtain ⟨b0, b1, b2⟩ := S.base
  refine ⟨G.keeps b0 b1, fullS_sub S.sub, fun x d hx => ?_⟩
  have key : ∃ c, (x, c) ∈ σ ∧ ∃ v, cur env m cm x = some v ∧ Rep (fullS T I s) d v := by
    rcases mem_fullR hx with hx | ⟨l, rfl, hx'⟩
    · obtain ⟨v, e, r⟩ := rp _ _ hx
      exact ⟨_, hx, v, e, r.mono (sub_fullS S.sub)⟩
    · obtain ⟨a, e, y⟩ := rp _ _ hx'
      obtain ⟨n, vs, g1, g4⟩ := y.obj
      refine ⟨_, hx', _, e, rep_list.mpr ⟨a, n, vs, rfl, ?_, g4.mono (sub_fullS S.sub)⟩⟩
      unfold fullS; rw [if_pos y.mem]; exact g1
  obtain ⟨c, hx, v, e, r⟩ := key
  obtain ⟨k1, k2⟩ := S.kinds x (List.mem_map.mpr ⟨_, hx, rfl⟩)
  refine ⟨k1, v, ?_, r⟩
  unfold cur at e
  rcases k2 with k2 | ⟨k2, c, k3⟩
  · rw [if_pos k2] at e; exact .inl ⟨k2, m, ns, e⟩
  · rw [if_neg (by rw [k2]; decide)] at e
    exact .inr ⟨.inl k2, c, k3, e ▸ cl x c k3⟩

/-- from the full store back: the heap has grown, the told part is as it was -/
theorem Grow.drop {T : List Addr} {I J : Store} {s s' : Shared} (hs : Sub I s.heap.get?) (g : Grow s (fullS T I s) s' J) : Grow s I s' I := by
  obtain ⟨h, t, rfl⟩ := g.same
  exact ⟨⟨h, t, rfl⟩, g.keep, .refl _, fun b o e => g.keep b o (hs b o e), fun b o e => .inl e⟩

inductive Scal : D → Prop
  | none : Scal .none
  | bool (b) : Scal (.bool b)
  | int (i) : Scal (.int i)
  | str (s) : Scal (.str s)
theorem Scal.rep {d : D} (h : Scal d) {I J : Store} {v : Value} (r : Rep I d v) : Rep J d v := by
  cases h <;> · unfold Rep at r ⊢; exact r

/-- what a new cell must be for its name -/
noncomputable def CNew (env : Env) (T : List Addr) (I : Store) (σ : Sto) (x : Str) (s : Shared) (c : Cell) (v : Value) : Prop :=
  match c with
  | .no => False
  | .imm d => Rep I d v
  | .own l => ∃ a, v = .ref a ∧ OwnAt env T I s.heap a l ∧ ∀ m cm, s.heap.Ns env.locals m → (∀ n c, env.cells.lookup n = some c → s.heap.IsCell c (cm n)) → ∀ y l', (y, Cell.own l') ∈ σ → y ≠ x → cur env m cm y ≠ some (.ref a)

theorem SIn.store {G : Gd} {h₀ : Heap} {env : Env} {T : List Addr} {I : Store} {σ : Sto} {s : Shared} {A : Around} {i : Nat} {x : Str} {c0 c : Cell} {v : Value} {Q : Unit → Shared → Prop} {E : Value → Shared → Prop}
    (S : SIn G h₀ env T I σ s) (hi : σ[i]? = some (x, c0)) (hc : CNew env T I σ x s c v)
    (h : ∀ s', Tr T I s T I s' → SIn G h₀ env T I (σ.set i (x, c)) s' → Q () s') : wpAny G.M A (storeName env x v) Q E s := by
  obtain ⟨m, cm, ns, cl, rp, ap⟩ := S.names
  obtain ⟨b0, b1, b2⟩ := S.base
  have hmem := List.mem_of_getElem? hi
  obtain ⟨k1, k2⟩ := S.kinds x (List.mem_map.mpr ⟨_, hmem, rfl⟩)
  -- the common end: the object at b ∈ T alone has changed
  have fin : ∀ (b : Addr) (h' : Heap) (t : Nat) (m' cm' : Str → Option Value), b ∈ T → (b = env.locals ∨ ∃ n, env.cells.lookup n = some b) → Heap.SameBut b s.heap h' → h'.get? b ≠ none →
      h'.Ns env.locals m' → (∀ n c, env.cells.lookup n = some c → h'.IsCell c (cm' n)) → (∀ y, y ≠ x → cur env m' cm' y = cur env m cm y) → cur env m' cm' x = some v → Q () { s with heap := h', toks := t } := by
    intro b h' t m' cm' hbT hbF hs hbl ns' cl' hoth hx
    have keep : ∀ b' o, b' ∉ T → s.heap.get? b' = some o → h'.get? b' = some o := fun b' o hb' e => (hs.2 b' fun q => hb' (q ▸ hbT)).trans e
    have aliv : ∀ b', h'.get? b' = none → s.heap.get? b' = none := fun b' e => by
      by_cases hq : b' = b
      · subst hq; exact absurd e hbl
      · rw [← hs.2 b' hq]; exact e
    have ownK : ∀ a l, OwnAt env T I s.heap a l → OwnAt env T I h' a l := fun a l y => by
      obtain ⟨n, vs, g1, g4⟩ := y.obj
      refine ⟨y.mem, y.loc, y.cell, n, vs, (hs.2 a fun q => ?_).trans g1, g4⟩
      rcases hbF with q' | ⟨n, q'⟩
      · exact y.loc (q.trans q')
      · exact y.cell n b q' q.symm
    refine h _ ⟨⟨h', t, rfl⟩, keep, aliv, .refl _, fun _ _ e => .inl e, fun _ e => .inl e⟩ ⟨⟨b0, fun b' o e => keep b' o (fun q => by rw [b2 b' q] at e; cases e) (b1 b' o e), b2⟩, fun b' o e => keep b' o (fun q => by rw [S.out b' q] at e; cases e) (S.sub b' o e), S.out, S.kind, ?_, ?_, S.loc, fun b' hb' e => S.live b' hb' (aliv b' e), S.cells, S.apart, m', cm', ns', cl', ?_, ?_⟩
    · rw [set_fst hi]; exact S.nodup
    · rw [set_fst hi]; exact S.kinds
    · intro y c' hy
      rcases mem_set_of hi S.nodup hy with ⟨rfl, rfl⟩ | ⟨hy, hne⟩
      · rw [hx]
        cases c' with
        | no => trivial
        | imm d => exact ⟨v, rfl, hc⟩
        | own l => obtain ⟨a, rfl, y, _⟩ := hc; exact ⟨a, rfl, ownK a l y⟩
      · rw [hoth y hne]
        have := rp y c' hy
        cases c' with
        | no => trivial
        | imm d => exact this
        | own l => obtain ⟨a, e, y⟩ := this; exact ⟨a, e, ownK a l y⟩
    · intro y l z l' hy hz hne
      rcases mem_set_of hi S.nodup hy with ⟨rfl, e1⟩ | ⟨hy1, hy'⟩ <;> rcases mem_set_of hi S.nodup hz with ⟨rfl, e2⟩ | ⟨hz1, hz'⟩
      · exact absurd rfl hne
      · rw [hx, hoth z hz']
        subst e1
        obtain ⟨a, rfl, _, q⟩ := hc
        exact fun e => q m cm ns cl z l' hz1 hz' e.symm
      · rw [hx, hoth y hy']
        subst e2
        obtain ⟨a, rfl, _, q⟩ := hc
        exact fun e => q m cm ns cl y l hy1 hy' e
      · rw [hoth y hy', hoth z hz']; exact ap y l z l' hy1 hz1 hne
  rcases k2 with k2 | ⟨k2, c', k3⟩
  · refine wpAny_storeName_local k2 ns (fun h' ns' hs => ?_) (by rw [S.kind]; rfl)
    obtain ⟨oL, _, _, hL, _⟩ := id ns'
    refine fin env.locals h' _ _ cm S.loc (.inl rfl) hs (by rw [hL]; exact Option.some_ne_none _) ns' (fun n c e => (cl n c e).sameBut hs (S.cells n c e).2) (fun y hy => ?_) ?_
    · unfold cur; split
      · simp [hy]
      · rfl
    · unfold cur; rw [if_pos k2]; simp
  · refine wpAny_storeName_cell S.kind k2 k3 (cl x c' k3) fun h' hc' hs => ?_
    obtain ⟨oc, hoc, _⟩ := id hc'
    have hk : ¬ env.kindOf x = some .local := by rw [k2]; decide
    refine fin c' h' s.toks m (fun y => if y = x then some v else cm y) (S.cells x c' k3).1 (.inr ⟨x, k3⟩) hs (by rw [hoc]; exact Option.some_ne_none _) (ns.sameBut hs (Ne.symm (S.cells x c' k3).2)) (fun n c e => ?_) (fun y hy => ?_) ?_
    · by_cases hn : n = x
      · subst hn; rw [k3] at e; cases e; simpa using hc'
      · rw [if_neg hn]; exact (cl n c e).sameBut hs fun q => hn (S.apart n x c e (q ▸ k3))
    · unfold cur; split
      · rfl
      · simp [hy]
    · unfold cur; rw [if_neg hk]; simp

-- C4
set_option maxRecDepth 512
inductive Out where
  | next (σ : Sto)
  | brk (σ : Sto)
  | cont (σ : Sto)
  | ret (d : D)

noncomputable def At (G : Gd) (h₀ : Heap) (env : Env) (T : List Addr) (I : Store) (s : Shared) (Q : Sto → Prop) (s' : Shared) : Prop :=
  ∃ T' I' σ', Tr T I s T' I' s' ∧ SIn G h₀ env T' I' σ' s' ∧ Q σ'
noncomputable def SPost (G : Gd) (h₀ : Heap) (env : Env) (T : List Addr) (I : Store) (s : Shared) (Q : Out → Prop) : Flow → Shared → Prop
  | .next, s' => At G h₀ env T I s (fun σ => Q (.next σ)) s'
  | .brk, s' => At G h₀ env T I s (fun σ => Q (.brk σ)) s'
  | .cont, s' => At G h₀ env T I s (fun σ => Q (.cont σ)) s'
  | .ret v, s' => ∃ T' I' d, Tr T I s T' I' s' ∧ Sub I' s'.heap.get? ∧ Rep I' d v ∧ Q (.ret d)
section
variable {G : Gd} {h₀ : Heap} {env : Env} {T T₁ : List Addr} {I I₁ : Store} {s s₁ s' : Shared}
theorem At.of {Q : Sto → Prop} (x : Tr T I s T₁ I₁ s₁) (y : At G h₀ env T₁ I₁ s₁ Q s') : At G h₀ env T I s Q s' := let ⟨T', I', σ', a, b, c⟩ := y; ⟨T', I', σ', x.trans a, b, c⟩
theorem SPost.of {Q : Out → Prop} {f : Flow} (x : Tr T I s T₁ I₁ s₁) (y : SPost G h₀ env T₁ I₁ s₁ Q f s') : SPost G h₀ env T I s Q f s' := by
  cases f with
  | next => exact At.of x y
  | brk => exact At.of x y
  | cont => exact At.of x y
  | ret v => obtain ⟨T', I', d, a, b⟩ := y; exact ⟨T', I', d, x.trans a, b⟩
end

noncomputable def SE (G : Gd) (k : Nat) (sc : Scope) (σ : Sto) (b : List Stmt) (Q : Out → Prop) : Prop :=
  ∀ (h₀ : Heap) (A : Around) (env : Env) (T : List Addr) (I : Store) (s : Shared), OkA k A → EnvOk sc env → SIn G h₀ env T I σ s → wpAny G.M A (execs b env) (SPost G h₀ env T I s Q) Bot s
noncomputable def S1 (G : Gd) (k : Nat) (sc : Scope) (σ : Sto) (b : Stmt) (Q : Out → Prop) : Prop :=
  ∀ (h₀ : Heap) (A : Around) (env : Env) (T : List Addr) (I : Store) (s : Shared), OkA k A → EnvOk sc env → SIn G h₀ env T I σ s → wpAny G.M A (exec b env) (SPost G h₀ env T I s Q) Bot s
/-- a target is given a value -/
noncomputable def AE (G : Gd) (k : Nat) (sc : Scope) (σ : Sto) (t : Expr) (d : D) (Q : Sto → Prop) : Prop :=
  ∀ (h₀ : Heap) (A : Around) (env : Env) (T : List Addr) (I : Store) (s : Shared) (v : Value), OkA k A → EnvOk sc env → SIn G h₀ env T I σ s → Rep I d v → wpAny G.M A (assign t env v) (fun _ => At G h₀ env T I s Q) Bot s

@[reducible] def SeqK (G : Gd) (k : Nat) (sc : Scope) (rest : List Stmt) (Q : Out → Prop) : Out → Prop := fun o => match o with | .next σ' => SE G k sc σ' rest Q | o => Q o
@[reducible] def BrK (G : Gd) (k : Nat) (sc : Scope) (σ : Sto) (a b : List Stmt) (Q : Out → Prop) : Bool → Prop := fun c => if c then SE G k sc σ a Q else SE G k sc σ b Q
@[reducible] def WhO (Inv : Nat → Sto → Prop) (n : Nat) (Q : Out → Prop) : Out → Prop := fun o => match o with | .next σ' => ∃ m, m < n ∧ Inv m σ' | .cont σ' => ∃ m, m < n ∧ Inv m σ' | .brk σ' => Q (.next σ') | .ret d => Q (.ret d)
@[reducible] def WhK (G : Gd) (k : Nat) (sc : Scope) (σ : Sto) (a b : List Stmt) (K Q : Out → Prop) : Bool → Prop := fun c => if c then SE G k sc σ a K else SE G k sc σ b Q
@[reducible] def RetK (Q : Out → Prop) : D → Prop := fun d => Q (.ret d)
section
variable {G : Gd} {k : Nat} {sc : Scope} {σ : Sto} {Q : Out → Prop}

theorem SE.mono {b : List Stmt} {Q' : Out → Prop} (h : SE G k sc σ b Q) (hq : ∀ o, Q o → Q' o) : SE G k sc σ b Q' := fun h₀ A env T I s oa eo S =>
  wpAny_mono (h h₀ A env T I s oa eo S) (fun f s' p => by
    cases f with
    | next => obtain ⟨T', I', σ', a, b, c⟩ := p; exact ⟨T', I', σ', a, b, hq _ c⟩
    | brk => obtain ⟨T', I', σ', a, b, c⟩ := p; exact ⟨T', I', σ', a, b, hq _ c⟩
    | cont => obtain ⟨T', I', σ', a, b, c⟩ := p; exact ⟨T', I', σ', a, b, hq _ c⟩
    | ret v => obtain ⟨T', I', σ', a, b, c, d⟩ := p; exact ⟨T', I', σ', a, b, c, hq _ d⟩) fun _ _ x => x

theorem se_nil (h : Q (.next σ)) : SE G k sc σ [] Q := fun _ _ _ _ _ _ _ _ S => wpAny_execs_nil ⟨_, _, σ, Tr.refl .., S, h⟩
theorem se_cons {st : Stmt} {rest : List Stmt} (h : S1 G k sc σ st (SeqK G k sc rest Q)) : SE G k sc σ (st :: rest) Q := fun h₀ A env T I s oa eo S =>
  wpAny_execs_cons (wpAny_mono (h h₀ A env T I s oa eo S) (fun f s' p => by
    cases f with
    | next =>
      obtain ⟨T', I', σ', a, b, c⟩ := p
      exact wpAny_mono (c h₀ A env T' I' s' oa eo b) (fun _ _ x => .of a x) fun _ _ x => x
    | brk => exact p
    | cont => exact p
    | ret v => exact p) fun _ _ x => x)

theorem s_return {e : Expr} {p : Pos} (h : PE G k sc (fullR σ) e (RetK Q)) : S1 G k sc σ (.Return (some e) p) Q := fun h₀ A env T I s oa eo S =>
  wpAny_Return_some (wpAny_mono (h A env _ s oa eo S.fullN) (fun v s' ⟨J, d, g, r, q⟩ => by
    refine ⟨T, J, d, ⟨g.same, fun b o _ e => g.keep b o e, fun b e => ?_, fun b o e => g.sub b o (sub_fullS S.sub b o e), fun b o e => ?_, fun _ e => .inl e⟩, g.sub', r, q⟩
    · cases h : s.heap.get? b with
      | none => rfl
      | some o => rw [g.keep b o h] at e; cases e
    · rcases g.new b o e with q | q
      · unfold fullS at q
        split at q
        · rename_i hb; exact .inr (.inl hb)
        · exact .inl q
      · exact .inr (.inr q)) fun _ _ x => x)

theorem s_break {p : Pos} (h : Q (.brk σ)) : S1 G k sc σ (.Break p) Q := fun h₀ A env T I s oa eo S => by
  show wpAny _ A (do standAt p; pure Flow.brk) _ _ s
  exact wpAny_bind (wpAny_standAt (wpAny_pure (show SPost G h₀ env T I s Q Flow.brk s from ⟨_, _, σ, Tr.refl .., S, h⟩)))

theorem ae_name {x : Str} {p : Pos} {d : D} {i : Nat} {c0 : Cell} {Q : Sto → Prop} (hi : σ[i]? = some (x, c0)) (h : Q (σ.set i (x, .imm d))) : AE G k sc σ (.Name x p) d Q := fun h₀ A env T I s v oa eo S r =>
  wpAny_assign_Name (S.store hi (c := .imm d) r fun s' t S' => ⟨_, _, _, t, S', h⟩)

theorem s_assign {x : Str} {p' pos : Pos} {e : Expr} {i : Nat} {c0 : Cell} (hi : σ[i]? = some (x, c0)) (h : PE G k sc (immR σ) e fun d => Q (.next (σ.set i (x, .imm d))))
    (hs : ∀ env, swapsWith e (some (.Name x p')) pos.line env = pure false := by intro _; rfl) : S1 G k sc σ (.Assign [.Name x p'] e pos) Q := fun h₀ A env T I s oa eo S =>
  wpAny_Assign_Name (wpAny_mono (h A env _ s oa eo S.immN) (fun v s' ⟨J, d, g, r, q⟩ =>
    (S.grow g).store hi (c := .imm d) r fun s'' t S' => ⟨_, _, _, (Tr.of_grow g).trans t, S', q⟩) fun _ _ x => x) (hs env)
/-- with the frame's own lists to be read: a value that holds no object -/
theorem s_assign_scal {x : Str} {p' pos : Pos} {e : Expr} {i : Nat} {c0 : Cell} (hi : σ[i]? = some (x, c0)) (h : PE G k sc (fullR σ) e fun d => Scal d ∧ Q (.next (σ.set i (x, .imm d))))
    (hs : ∀ env, swapsWith e (some (.Name x p')) pos.line env = pure false := by intro _; rfl) : S1 G k sc σ (.Assign [.Name x p'] e pos) Q := fun h₀ A env T I s oa eo S =>
  wpAny_Assign_Name (wpAny_mono (h A env _ s oa eo S.fullN) (fun v s' ⟨J, d, g, r, sd, q⟩ => by
    have g' := g.drop S.sub
    exact (S.grow g').store hi (c := .imm d) (sd.rep r) fun s'' t S' => ⟨_, _, _, (Tr.of_grow g').trans t, S', q⟩) fun _ _ x => x) (hs env)

theorem s_aug {x : Str} {op : Operator} {p' pos : Pos} {e : Expr} {i : Nat} {d₀ : D} (hi : σ[i]? = some (x, .imm d₀)) (h : PE G k sc (fullR σ) e fun d => Op2 G k (inplaceOp op) d₀ d fun r => Scal r ∧ Q (.next (σ.set i (x, .imm r)))) :
    S1 G k sc σ (.AugAssign (.Name x p') op e pos) Q := fun h₀ A env T I s oa eo S => by
  refine wpAny_AugAssign_Name ?_
  have hx : (x, d₀) ∈ fullR σ := by
    clear h S
    induction σ generalizing i with
    | nil => simp at hi
    | cons q r ih =>
      cases i with
      | zero => simp at hi; subst hi; exact .head _
      | succ i =>
        simp at hi
        have := ih hi
        obtain ⟨y, c⟩ := q
        cases c with
        | no => exact this
        | imm d => exact .tail _ this
        | own l => exact .tail _ this
  obtain ⟨_, v, V, r⟩ := S.fullN.val x d₀ hx
  refine V.load (by rw [eo.scope]; exact eo.kind) ?_
  refine wpAny_mono (h A env _ s oa eo S.fullN) (fun u s₁ ⟨J, d, g, r₁, q⟩ => ?_) fun _ _ x => x
  have N₁ := S.fullN.grow g
  refine wpAny_mono (q A J s₁ v u oa N₁.base N₁.sub (r.mono g.sub) r₁) (fun v₂ s₂ ⟨J₂, d₂, g₂, r₂, sd, q₂⟩ => ?_) fun _ _ x => x
  have g' := (g.trans g₂).drop S.sub
  exact (S.grow g').store hi (c := .imm d₂) (sd.rep r₂) fun s'' t S' => ⟨_, _, _, (Tr.of_grow g').trans t, S', q₂⟩

theorem s_if {t : Expr} {a b : List Stmt} {p : Pos} (h : TE G k sc (fullR σ) t (BrK G k sc σ a b Q)) : S1 G k sc σ (.If t a b p) Q := fun h₀ A env T I s oa eo S =>
  wpAny_If (wpAny_mono (h A env _ s oa eo S.fullN) (fun c s₁ ⟨J, g, q⟩ => by
    have g' := g.drop S.sub
    cases c with
    | true => exact wpAny_mono (q h₀ A env T I s₁ oa eo (S.grow g')) (fun _ _ x => .of (Tr.of_grow g') x) fun _ _ x => x
    | false => exact wpAny_mono (q h₀ A env T I s₁ oa eo (S.grow g')) (fun _ _ x => .of (Tr.of_grow g') x) fun _ _ x => x) fun _ _ x => x)

theorem s_while {t : Expr} {a b : List Stmt} {p : Pos} (Inv : Nat → Sto → Prop) (n : Nat) (h0 : Inv n σ)
    (turn : ∀ n σ, Inv n σ → ∀ K : Out → Prop, (∀ o, WhO Inv n Q o → K o) → TE G k sc (fullR σ) t (WhK G k sc σ a b K Q)) : S1 G k sc σ (.While t a b p) Q := fun h₀ A env T I s oa eo S => by
  refine wpAny_While (codeAny_whileLoop (fun n s' => At G h₀ env T I s (Inv n) s') (fun n s' hI => ?_) n ⟨T, I, σ, Tr.refl .., S, h0⟩)
  obtain ⟨T₁, I₁, σ₁, x, S₁, hInv⟩ := hI
  refine wpAny_mono (turn n σ₁ hInv (WhO Inv n Q) (fun _ x => x) A env _ s' oa eo S₁.fullN) (fun c s₂ ⟨J, g, q⟩ => ?_) fun _ _ x => x.elim
  have g' := g.drop S₁.sub
  have x₂ := x.trans (Tr.of_grow g')
  cases c with
  | true =>
    simp only [if_true] at q ⊢
    refine wpAny_mono (q h₀ A env T₁ I₁ s₂ oa eo (S₁.grow g')) (fun f s₃ p => ?_) fun _ _ x => x.elim
    cases f with
    | next => obtain ⟨T', I', σ', a, b, m, hm, c⟩ := p; exact ⟨m, hm, T', I', σ', x₂.trans a, b, c⟩
    | cont => obtain ⟨T', I', σ', a, b, m, hm, c⟩ := p; exact ⟨m, hm, T', I', σ', x₂.trans a, b, c⟩
    | brk => obtain ⟨T', I', σ', a, b, c⟩ := p; exact ⟨T', I', σ', x₂.trans a, b, c⟩
    | ret v => obtain ⟨T', I', σ', a, b, c⟩ := p; exact ⟨T', I', σ', x₂.trans a, b, c⟩
  | false =>
    simp only [Bool.false_eq_true, if_false] at q ⊢
    exact wpAny_mono (q h₀ A env T₁ I₁ s₂ oa eo (S₁.grow g')) (fun f s₃ p => .of x₂ p) fun _ _ x => x.elim
end

-- C5
set_option maxRecDepth 512
/-! ### a loop over what an expression gives -/
structure ItOk (G : Gd) (A : Around) (s₀ : Shared) (I₂ : Store) (s₂ : Shared) (a : Addr) (fp wr : List Addr) (P : Nat → Value → Prop) (St : Nat → Heap → Prop) (items : List D) : Prop where
  walks : Walks G.prog G.w A a fp wr items.length P St
  start : St 0 s₂.heap
  new : ∀ b ∈ wr, s₀.heap.get? b = none ∧ I₂ b = none
  live : ∀ i h, St i h → ∀ b ∈ wr, h.get? b ≠ none
  old : ∀ b ∈ fp, b ∉ wr → ∃ o, I₂ b = some o
  rep : ∀ i v, i < items.length → P i v → ∃ d, items[i]? = some d ∧ Rep I₂ d v
  go : ∀ (i : Nat) (s : Shared) (t : Expr) (v : Value) (Q : Unit → Shared → Prop) (E : Value → Shared → Prop), St i s.heap → Q () s → wpAny G.M A (letOwnedTupleGo t (.ref a) v) Q E s

noncomputable def IE (G : Gd) (k : Nat) (sc : Scope) (ρ : List (Str × D)) (e : Expr) (Q : List D → Prop) : Prop :=
  ∀ (A : Around) (env : Env) (I : Store) (s : Shared), OkA k A → EnvOk sc env → NIn G env ρ I s →
    wpAny G.M A (eval e env) (fun x s₁ => wpAny G.M A (pyIter x) (fun it s₂ => ∃ I₂ a fp wr P St items, it = .ref a ∧ Grow s I s₂ I₂ ∧ ItOk G A s I₂ s₂ a fp wr P St items ∧ Q items) Bot s₁) Bot s

theorem notOwner {l : List String} {c : String} {b : Bool} (h : l.contains c = false) : ¬ ((l.contains c && b) = true) := by rw [h]; simp
theorem go_list {G : Gd} {A : Around} {s : Shared} {a l : Addr} {i : Nat} {t : Expr} {v : Value} {Q : Unit → Shared → Prop} {E : Value → Shared → Prop} (hit : s.heap.IsListIter a l i) (h : Q () s) : wpAny G.M A (letOwnedTupleGo t (.ref a) v) Q E s := by
  obtain ⟨o, ho, hc, hd⟩ := hit
  unfold letOwnedTupleGo
  cases t <;> first
    | exact wpAny_pure h
    | (cases v <;> first
        | exact wpAny_pure h
        | (refine wpAny_bind (wpAny_load ho ?_)
           rw [hc, hd]
           refine wpAny_of_eq (a := ()) ?_ h
           exact if_neg (notOwner (by decide))))
theorem go_tuple {G : Gd} {A : Around} {s : Shared} {a l : Addr} {i : Nat} {t : Expr} {v : Value} {Q : Unit → Shared → Prop} {E : Value → Shared → Prop} (hit : s.heap.IsTupleIter a l i) (h : Q () s) : wpAny G.M A (letOwnedTupleGo t (.ref a) v) Q E s := by
  obtain ⟨o, ho, hc, hd⟩ := hit
  unfold letOwnedTupleGo
  cases t <;> first
    | exact wpAny_pure h
    | (cases v <;> first
        | exact wpAny_pure h
        | (refine wpAny_bind (wpAny_load ho ?_)
           rw [hc, hd]
           refine wpAny_of_eq (a := ()) ?_ h
           exact if_neg (notOwner (by decide))))
theorem go_range {G : Gd} {A : Around} {s : Shared} {a : Addr} {x y z : Int} {t : Expr} {v : Value} {Q : Unit → Shared → Prop} {E : Value → Shared → Prop} (hit : IsRangeIter s.heap a x y z) (h : Q () s) : wpAny G.M A (letOwnedTupleGo t (.ref a) v) Q E s := by
  unfold letOwnedTupleGo
  cases t <;> first
    | exact wpAny_pure h
    | (cases v <;> first
        | exact wpAny_pure h
        | (refine wpAny_bind (wpAny_load hit ?_)
           refine wpAny_of_eq (a := ()) ?_ h
           exact if_neg (notOwner (by decide))))

@[reducible] def LstK (Q : List D → Prop) : D → Prop := fun d => ∃ l, d = .list l ∧ Q l
@[reducible] def TplK (Q : List D → Prop) : D → Prop := fun d => ∃ l, d = .tup l ∧ Q l
noncomputable def irange (a : Int) (n : Nat) : List D := (List.range n).map fun (i : Nat) => .int (a + (i : Int))
@[reducible] def RngK (Q : List D → Prop) : D → Prop := fun d => ∃ a b, d = .rng a b 1 ∧ (-(2 ^ 62) ≤ a ∧ a < 2 ^ 62 ∧ -(2 ^ 62) ≤ b ∧ b < 2 ^ 62) ∧ Q (irange a (b - a).toNat)

section
variable {G : Gd} {k : Nat} {sc : Scope} {ρ : List (Str × D)} {Q : List D → Prop}

theorem size_none (h : Heap) : h.get? h.objs.size = none := by
  cases e : h.get? h.objs.size with
  | none => rfl
  | some o => exact absurd (Heap.lt_size e) (Nat.lt_irrefl _)

theorem none_of_keep {h h' : Heap} {b : Addr} (k : ∀ b o, h.get? b = some o → h'.get? b = some o) (e : h'.get? b = none) : h.get? b = none := by
  cases q : h.get? b with
  | none => rfl
  | some o => rw [k b o q] at e; cases e

theorem ie_list {e : Expr} (h : PE G k sc ρ e (LstK Q)) : IE G k sc ρ e Q := fun A env I s oa eo N =>
  wpAny_mono (h A env I s oa eo N) (fun v s₁ ⟨J, d, g, r, l, hd, q⟩ => by
    subst hd
    obtain ⟨a, n, vs, rfl, hI, rl⟩ := rep_list.mp r
    have ho := g.sub' _ _ hI
    have hl : s₁.heap.IsList a vs := ⟨_, ho, rfl, n, rfl⟩
    have hne : a ≠ s₁.heap.objs.size := Nat.ne_of_lt (Heap.lt_size ho)
    refine wpAny_pyIter_list hl ?_
    have g₂ : Grow s₁ J { s₁ with heap := s₁.heap.push { cls := .type "list_iterator", data := .fields #[.ref a, .int 0 0] } } J := Grow.heap (t := s₁.toks) g.sub' (fun b o e => Heap.get?_push_of_some _ e)
    have hlen : l.length = vs.size := by rw [← rl.length]; simp
    have W := Walks.list (prog := G.prog) (w := G.w) (A := A) oa.handled s₁.heap.objs.size a hne vs
    rw [← hlen] at W
    refine ⟨J, _, _, _, _, _, l, rfl, g.trans g₂, ⟨W, ⟨⟨_, Heap.get?_push_size _ rfl, rfl, rfl⟩, hl.push _⟩, fun b hb => ?_, fun i h st b hb => (by simp at hb; subst hb; obtain ⟨o, ho, _⟩ := st.1; rw [ho]; exact Option.some_ne_none _), fun b hb hb' => ?_, fun i v hi e => ?_, fun i s t v Q E st hQ => go_list st.1 hQ⟩, q⟩
    · simp at hb; subst hb
      refine ⟨none_of_keep g.keep (size_none _), ?_⟩
      cases e : J s₁.heap.objs.size with
      | none => rfl
      | some o => have := g.sub' _ _ e; rw [size_none] at this; cases this
    · simp at hb hb'
      rcases hb with rfl | rfl
      · exact absurd rfl hb'
      · exact ⟨_, hI⟩
    · obtain ⟨d, e1, e2⟩ := rl.get' (by simpa using e)
      exact ⟨d, e1, e2⟩) fun _ _ x => x

theorem ie_tuple {e : Expr} (h : PE G k sc ρ e (TplK Q)) : IE G k sc ρ e Q := fun A env I s oa eo N =>
  wpAny_mono (h A env I s oa eo N) (fun v s₁ ⟨J, d, g, r, l, hd, q⟩ => by
    subst hd
    obtain ⟨a, n, vs, rfl, hI, rl⟩ := rep_tup.mp r
    have ho := g.sub' _ _ hI
    have hl : s₁.heap.IsTuple a vs := ⟨_, ho, rfl, n, rfl⟩
    have hne : a ≠ s₁.heap.objs.size := Nat.ne_of_lt (Heap.lt_size ho)
    refine wpAny_pyIter_tuple hl ?_
    have g₂ : Grow s₁ J { s₁ with heap := s₁.heap.push { cls := .type "tuple_iterator", data := .fields #[.ref a, .int 0 0] } } J := Grow.heap (t := s₁.toks) g.sub' (fun b o e => Heap.get?_push_of_some _ e)
    have hlen : l.length = vs.size := by rw [← rl.length]; simp
    have W := Walks.tuple (prog := G.prog) (w := G.w) (A := A) oa.handled s₁.heap.objs.size a hne vs
    rw [← hlen] at W
    refine ⟨J, _, _, _, _, _, l, rfl, g.trans g₂, ⟨W, ⟨⟨_, Heap.get?_push_size _ rfl, rfl, rfl⟩, hl.push _⟩, fun b hb => ?_, fun i h st b hb => (by simp at hb; subst hb; obtain ⟨o, ho, _⟩ := st.1; rw [ho]; exact Option.some_ne_none _), fun b hb hb' => ?_, fun i v hi e => ?_, fun i s t v Q E st hQ => go_tuple st.1 hQ⟩, q⟩
    · simp at hb; subst hb
      refine ⟨none_of_keep g.keep (size_none _), ?_⟩
      cases e : J s₁.heap.objs.size with
      | none => rfl
      | some o => have := g.sub' _ _ e; rw [size_none] at this; cases this
    · simp at hb hb'
      rcases hb with rfl | rfl
      · exact absurd rfl hb'
      · exact ⟨_, hI⟩
    · obtain ⟨d, e1, e2⟩ := rl.get' (by simpa using e)
      exact ⟨d, e1, e2⟩) fun _ _ x => x

/-- the ints of a range by ones -/
theorem ie_range {e : Expr} (h : PE G k sc ρ e (RngK Q)) : IE G k sc ρ e Q := fun A env I s oa eo N =>
  wpAny_mono (h A env I s oa eo N) (fun v s₁ ⟨J, d, g, r, x, y, hd, hb, q⟩ => by
    subst hd
    obtain ⟨a, t, u, z, rfl, hI⟩ := rep_rng.mp r
    have ho := g.sub' _ _ hI
    refine wpAny_pyIter_range ho (small_one hb.1 hb.2.1 hb.2.2.1 hb.2.2.2) ?_
    have g₂ : Grow s₁ J { s₁ with heap := s₁.heap.push { cls := .type "range_iterator", data := .fields #[rawInt x, rawInt (Builtin.Range.rangeSize x y 1), rawInt 1] } } J := Grow.heap (t := s₁.toks) g.sub' (fun b o e => Heap.get?_push_of_some _ e)
    have W := Walks.range (prog := G.prog) (w := G.w) (A := A) oa.handled s₁.heap.objs.size x 1 (y - x).toNat
    have hlen : (irange x (y - x).toNat).length = (y - x).toNat := by simp [irange]
    rw [← hlen] at W
    have hsz : Builtin.Range.rangeSize x y 1 = ((irange x (y - x).toNat).length : Int) := by
      rw [rangeSize_one, hlen]; split <;> omega
    refine ⟨J, _, _, _, _, _, _, rfl, g.trans g₂, ⟨W, ?_, fun b hb => ?_, fun i h st b hb => (by simp at hb; subst hb; have st : IsRangeIter h _ _ _ _ := st; rw [st]; exact Option.some_ne_none _), fun b hb hb' => ?_, fun i v hi e => ?_, fun i s t v Q E st hQ => go_range st hQ⟩, q⟩
    · show IsRangeIter _ _ _ _ _
      unfold IsRangeIter
      rw [Heap.get?_push_size _ rfl, hsz]
      simp
    · simp at hb; subst hb
      refine ⟨none_of_keep g.keep (size_none _), ?_⟩
      cases e : J s₁.heap.objs.size with
      | none => rfl
      | some o => have := g.sub' _ _ e; rw [size_none] at this; cases this
    · exact absurd hb hb'
    · obtain ⟨t, rfl⟩ := e
      rw [hlen] at hi
      exact ⟨.int (x + i), by simp [irange, hi], rep_int.mpr ⟨t, by simp⟩⟩) fun _ _ x => x
end

theorem SIn.wr {G : Gd} {h₀ : Heap} {env : Env} {T : List Addr} {I : Store} {σ : Sto} {s : Shared} (S : SIn G h₀ env T I σ s) {wr : List Addr} {h' : Heap} {t : Nat} (hk : ∀ b o, b ∉ wr → s.heap.get? b = some o → h'.get? b = some o)
    (hw : ∀ b ∈ wr, b ∉ T ∧ I b = none ∧ h₀.get? b = none) : SIn G h₀ env T I σ { s with heap := h', toks := t } := by
  obtain ⟨m, cm, ns, cl, rp, ap⟩ := S.names
  obtain ⟨b0, b1, b2⟩ := S.base
  have kT : ∀ b ∈ T, ∀ o, s.heap.get? b = some o → h'.get? b = some o := fun b hb o e => hk b o (fun q => (hw b q).1 hb) e
  refine ⟨⟨b0, fun b o e => hk b o (fun q => by rw [(hw b q).2.2] at e; cases e) (b1 b o e), b2⟩, fun b o e => hk b o (fun q => by rw [(hw b q).2.1] at e; cases e) (S.sub b o e), S.out, S.kind, S.nodup, S.kinds, S.loc, fun b hb e => ?_, S.cells, S.apart, m, cm,
    ns.at' fun o e => kT _ S.loc o e, fun n c e => ?_, fun x c hx => (rp x c hx).mono (.refl _) fun a l hc hu o e => ?_, ap⟩
  · cases h : s.heap.get? b with
    | none => exact S.live b hb h
    | some o => rw [kT b hb o h] at e; cases e
  · obtain ⟨o, ho, hd⟩ := cl n c e
    exact ⟨o, kT c (S.cells n c e).1 o ho, hd⟩
  · subst hc
    obtain ⟨a', e', y⟩ := rp x _ hx
    rw [hu] at e'
    cases e'
    exact kT a y.mem o e

noncomputable def ForL (G : Gd) (k : Nat) (sc : Scope) (t : Expr) (a b : List Stmt) (Q : Out → Prop) : List D → Sto → Prop
  | [], σ => SE G k sc σ b Q
  | d :: ds, σ => AE G k sc σ t d fun σ' => SE G k sc σ' a fun o => match o with
    | .next σ'' => ForL G k sc t a b Q ds σ''
    | .cont σ'' => ForL G k sc t a b Q ds σ''
    | .brk σ'' => Q (.next σ'')
    | .ret d => Q (.ret d)
@[reducible] def ForQ (G : Gd) (k : Nat) (sc : Scope) (t : Expr) (a b : List Stmt) (Q : Out → Prop) (σ : Sto) : List D → Prop := fun items => ForL G k sc t a b Q items σ

/-- how a loop stands between two turns -/
inductive ForI (G : Gd) (h₀ : Heap) (env : Env) (T : List Addr) (I I₂ : Store) (s : Shared) (wr : List Addr) (St : Nat → Heap → Prop) (len : Nat) (L : Nat → Sto → Prop) : Nat → Shared → Prop
  | mk {i : Nat} {T₁ : List Addr} {I₁ : Store} {σ₁ : Sto} {s' : Shared} (hi : i ≤ len) (x : Tr T I s T₁ I₁ s') (S : SIn G h₀ env T₁ I₁ σ₁ s') (hsub : Sub I₂ I₁) (st : St i s'.heap) (hw : ∀ b ∈ wr, b ∉ T₁ ∧ I₁ b = none) (l : L i σ₁) :
      ForI G h₀ env T I I₂ s wr St len L (len - i) s'

section
variable {G : Gd} {k : Nat} {sc : Scope} {σ : Sto} {Q : Out → Prop}

/-- the iterator's own step leaves the frame as it was -/
theorem for_step {h₀ h' : Heap} {env : Env} {T T₁ wr : List Addr} {I I₁ : Store} {s s' : Shared} {tk : Nat} (hn : ∀ b ∈ wr, s.heap.get? b = none) (h0 : ∀ b ∈ wr, h₀.get? b = none) (x : Tr T I s T₁ I₁ s') (S : SIn G h₀ env T₁ I₁ σ s') (hw : ∀ b ∈ wr, b ∉ T₁ ∧ I₁ b = none)
    (hk : ∀ b o, b ∉ wr → s'.heap.get? b = some o → h'.get? b = some o) : Tr T I s T₁ I₁ { s' with heap := h', toks := tk } ∧ SIn G h₀ env T₁ I₁ σ { s' with heap := h', toks := tk } := by
  refine ⟨⟨?_, fun b o hb e => hk b o (fun q => by rw [hn b q] at e; cases e) (x.keep b o hb e), fun b e => ?_, x.sub, x.new, x.newT⟩, S.wr hk fun b hb => ⟨(hw b hb).1, (hw b hb).2, h0 b hb⟩⟩
  · obtain ⟨h, t, e⟩ := x.same
    exact ⟨h', tk, by rw [e]⟩
  · by_cases hb : b ∈ wr
    · exact hn b hb
    · refine x.alive b ?_
      cases q : s'.heap.get? b with
      | none => rfl
      | some o => have e' : h'.get? b = none := e; rw [hk b o hb q] at e'; cases e'
/-- the frame's own step leaves the iterator as it was -/
theorem for_keep {A : Around} {s₀ : Shared} {I₂ : Store} {s₂ : Shared} {ad : Addr} {fp wr : List Addr} {P : Nat → Value → Prop} {St : Nat → Heap → Prop} {items : List D} (O : ItOk G A s₀ I₂ s₂ ad fp wr P St items) {i : Nat} {s₃ s₄ : Shared} {T₃ T₄ : List Addr} {I₃ I₄ : Store}
    (y : Tr T₃ I₃ s₃ T₄ I₄ s₄) (out : ∀ b ∈ T₃, I₃ b = none) (hsub₃ : Sub I₂ I₃) (st₃ : St i s₃.heap) (hw₃ : ∀ b ∈ wr, b ∉ T₃ ∧ I₃ b = none) : St i s₄.heap ∧ (∀ b ∈ wr, b ∉ T₄ ∧ I₄ b = none) ∧ Sub I₂ I₄ := by
  refine ⟨O.walks.frame _ _ _ st₃ fun b hb o e => ?_, fun b hb => ?_, hsub₃.trans y.sub⟩
  · by_cases hbw : b ∈ wr
    · exact y.keep b o (hw₃ b hbw).1 e
    · obtain ⟨o', ho'⟩ := O.old b hb hbw
      refine y.keep b o (fun q => ?_) e
      have := hsub₃ _ _ ho'
      rw [out b q] at this; cases this
  · obtain ⟨w1, w2⟩ := hw₃ b hb
    have w3 := O.live _ _ st₃ b hb
    refine ⟨fun q => (y.newT b q).elim w1 w3, ?_⟩
    cases e : I₄ b with
    | none => rfl
    | some o => exact (y.new b o e).elim (fun q => by rw [w2] at q; cases q) fun q => q.elim (fun q => absurd q w1) fun q => absurd q w3

theorem s_for {t iter : Expr} {a b : List Stmt} {p : Pos} (h : IE G k sc (immR σ) iter (ForQ G k sc t a b Q σ)) (hs : ∀ x env, foldedSetIterable iter env x = pure x := by intro _ _; rfl) : S1 G k sc σ (.For t iter a b p) Q := fun h₀ A env T I s oa eo S => by
  refine wpAny_For (wpAny_mono (h A env I s oa eo S.immN) (fun x s₁ h₁ => wpAny_mono h₁ (fun it s₂ h₂ => ?_) fun _ _ x => x.elim) fun _ _ x => x.elim) fun x => hs x env
  obtain ⟨I₂, ad, fp, wr, P, St, items, rfl, g, O, q⟩ := h₂
  have newS : ∀ b ∈ wr, s.heap.get? b = none := fun b hb => (O.new b hb).1
  have newH : ∀ b ∈ wr, h₀.get? b = none := fun b hb => none_of_keep S.base.2.1 (newS b hb)
  refine codeAny_forLoop_any (ForI G h₀ env T I I₂ s wr St items.length fun i σ => ForL G k sc t a b Q (items.drop i) σ)
    (fun n s' hI => ?_) (items.length - 0) (.mk (Nat.zero_le _) (Tr.of_grow g) (S.grow g) (.refl _) O.start (fun b hb => ⟨fun hT => S.live b hT (newS b hb), (O.new b hb).2⟩) q)
  cases hI with | @mk i T₁ I₁ σ₁ _ hi x S₁ hsub st hw L =>
  rcases Nat.lt_or_ge i items.length with hlt | hge
  · refine O.walks.item i s' _ _ hlt st fun v h' tk hP st' hk => ?_
    obtain ⟨x', S'⟩ := for_step newS newH x S₁ hw hk (tk := tk)
    obtain ⟨d, hd, r⟩ := O.rep i v hlt hP
    rw [List.drop_eq_getElem_cons hlt, (Option.some.inj ((List.getElem?_eq_getElem hlt).symm.trans hd) : items[i] = d)] at L
    refine O.go (i + 1) _ _ _ _ _ st' (wpAny_mono (L h₀ A env T₁ I₁ _ v oa eo S' (r.mono hsub)) (fun _ s₃ h₃ => ?_) fun _ _ x => x.elim)
    obtain ⟨T₃, I₃, σ₃, x₃, S₃, q₃⟩ := h₃
    obtain ⟨st₃, hw₃, hs₃⟩ := for_keep O x₃ S'.out hsub st' hw
    have x₄ := x'.trans x₃
    refine wpAny_mono (q₃ h₀ A env T₃ I₃ s₃ oa eo S₃) (fun f s₄ p => ?_) fun _ _ x => x.elim
    have again : ∀ {T₄ I₄ σ₄}, Tr T₃ I₃ s₃ T₄ I₄ s₄ → SIn G h₀ env T₄ I₄ σ₄ s₄ → ForL G k sc t a b Q (items.drop (i + 1)) σ₄ → ∃ m, m < items.length - i ∧ ForI G h₀ env T I I₂ s wr St items.length (fun i σ => ForL G k sc t a b Q (items.drop i) σ) m s₄ := fun y S₄ q₄ => by
      obtain ⟨st₄, hw₄, hs₄⟩ := for_keep O y S₃.out hs₃ st₃ hw₃
      exact ⟨_, Nat.sub_succ_lt_self _ _ hlt, .mk hlt (x₄.trans y) S₄ hs₄ st₄ hw₄ q₄⟩
    cases f with
    | next => obtain ⟨T₄, I₄, σ₄, y, S₄, q₄⟩ := p; exact again y S₄ q₄
    | cont => obtain ⟨T₄, I₄, σ₄, y, S₄, q₄⟩ := p; exact again y S₄ q₄
    | brk => exact At.of x₄ p
    | ret v => obtain ⟨T₄, I₄, d₄, y, z⟩ := p; exact ⟨T₄, I₄, d₄, x₄.trans y, z⟩
  · cases Nat.le_antisymm hi hge
    refine O.walks.done s' _ _ st fun h' tk hk => ?_
    obtain ⟨x', S'⟩ := for_step newS newH x S₁ hw hk (tk := tk)
    rw [List.drop_length] at L
    exact wpAny_mono (L h₀ A env T₁ I₁ _ oa eo S') (fun f s₄ p => .of x' p) fun _ _ x => x.elim
end

-- C6
set_option maxRecDepth 512
@[reducible] def AeK (G : Gd) (k : Nat) (sc : Scope) (t : Expr) (d : D) (Q : Sto → Prop) : Sto → Prop := fun σ' => AE G k sc σ' t d Q
@[reducible] def NextK (Q : Out → Prop) : Sto → Prop := fun σ' => Q (.next σ')
@[reducible] def PairK (G : Gd) (k : Nat) (sc : Scope) (σ : Sto) (t : Expr) (Q : Out → Prop) : D → Prop := fun d => AE G k sc σ t d (NextK Q)

section
variable {prog : Program} {w : World} {A : Around} {E : Value → Shared → Prop} {s : Shared}

theorem draw_list {it t : Addr} {items : Array Value} (hne : t ≠ it) : ∀ (n i : Nat) (s : Shared) (Q : List Value → Shared → Prop), s.heap.IsListIter it t i → s.heap.IsList t items → i + n ≤ items.size →
    (∀ h', h'.IsListIter it t (i + n) → Heap.SameBut it s.heap h' → Q ((items.toList.drop i).take n) { s with heap := h' }) → wpAny (model prog w) A (draw (.ref it) n) Q E s
  | 0, i, s, Q, hit, _, _, hQ => by
    show wpAny _ _ (pure []) Q E s
    exact wpAny_pure (by simpa using hQ s.heap hit (Heap.SameBut.refl ..))
  | n + 1, i, s, Q, hit, ht, hle, hQ => by
    have hlt : i < items.size := by omega
    show wpAny _ _ (pyNext (.ref it) >>= _) Q E s
    refine wpAny_bind (wpAny_pyNext_list_item hit ht (x := items[i]) (by simp [hlt]) fun h₁ hit₁ hs₁ => ?_)
    refine wpAny_bind (wpAny_holding (draw_list hne n (i + 1) _ _ hit₁ (ht.extBut hs₁.extBut hne) (by omega) fun h₂ hit₂ hs₂ => wpAny_pure ?_))
    have hd : items.toList.drop i = items[i] :: items.toList.drop (i + 1) := by simp [List.drop_eq_getElem_cons, hlt]
    have := hQ h₂ (by rw [show i + (n + 1) = i + 1 + n by omega]; exact hit₂) (hs₁.trans hs₂)
    rw [hd, List.take_succ_cons] at this
    exact this

theorem unpackItems_list {t : Addr} {items : Array Value} {Q : List Value → Shared → Prop} (hh : A.handled = none) (ht : s.heap.IsList t items)
    (hQ : ∀ h', Heap.ExtBut s.heap.objs.size s.heap h' → Q items.toList { s with heap := h' }) : wpAny (model prog w) A (unpackItems (.ref t) items.size none) Q E s := by
  have hlt : t ≠ s.heap.objs.size := by obtain ⟨o, ho, _⟩ := ht; exact Nat.ne_of_lt (Heap.lt_size ho)
  unfold unpackItems
  refine wpAny_bind ?_
  · unfold notIterableAtAll
    refine wpAny_bind (wpAny_specialOf ht.typeIs slot_list_iter.lookup ?_)
    refine wpAny_pure ?_
    simp only [Bool.false_eq_true, if_false]
    refine wpAny_bind (wpAny_holding (wpAny_pyIter_list ht ?_))
    refine wpAny_bind (wpAny_holding (draw_list hlt items.size 0 _ _ ⟨_, Heap.get?_push_size _ rfl, rfl, rfl⟩ (ht.push _) (by omega) fun h₁ hit₁ hs₁ => ?_))
    have hall : List.take items.size (List.drop 0 items.toList) = items.toList := by
      rw [List.drop_zero]; exact List.take_of_length_le (by simp)
    rw [hall]
    rw [if_neg (by simp)]
    have ht₁ : h₁.IsList t items := (ht.push _).extBut hs₁.extBut hlt
    refine wpAny_bind (wpAny_holding (wpAny_pyNext_list_end hh hit₁ ht₁ (by simp) fun h₂ he₂ => ?_))
    simp only [Option.isSome_none, Bool.false_eq_true, if_false]
    refine wpAny_pure (hQ h₂ fun b o hb e => he₂ b o hb (hs₁.extBut b o hb (Heap.get?_push_of_some _ e)))
end

/-- a list or a tuple -/
inductive IsSeq : D → List D → Prop
  | list (l) : IsSeq (.list l) l
  | tup (l) : IsSeq (.tup l) l

theorem unpack_seq {G : Gd} {A : Around} {E : Value → Shared → Prop} {s : Shared} {I : Store} {d : D} {l : List D} {v : Value} {Q : List Value → Shared → Prop} (hh : A.handled = none) (hs : IsSeq d l) (r : Rep I d v) (hI : Sub I s.heap.get?)
    (h : ∀ vs h', RepL I l vs → (∀ b o, s.heap.get? b = some o → h'.get? b = some o) → Q vs { s with heap := h' }) : wpAny G.M A (unpackItems v l.length none) Q E s := by
  have key : ∀ h' : Heap, Heap.ExtBut s.heap.objs.size s.heap h' → ∀ b o, s.heap.get? b = some o → h'.get? b = some o := fun h' x b o e => x b o (Nat.ne_of_lt (Heap.lt_size e)) e
  cases hs with
  | list l =>
    obtain ⟨a, n, vs, rfl, hi, rl⟩ := rep_list.mp r
    rw [show l.length = vs.size by rw [← rl.length]; simp]
    exact unpackItems_list hh ⟨_, hI _ _ hi, rfl, n, rfl⟩ fun h' x => h _ h' rl (key h' x)
  | tup l =>
    obtain ⟨a, n, vs, rfl, hi, rl⟩ := rep_tup.mp r
    rw [show l.length = vs.size by rw [← rl.length]; simp]
    exact wpAny_unpackItems_tuple hh ⟨_, hI _ _ hi, rfl, n, rfl⟩ fun h' x => h _ h' rl (key h' x)

section
variable {G : Gd} {k : Nat} {sc : Scope} {σ : Sto}

theorem ae_pair {ex ey : Expr} {n : Nat} {p : Pos} {d d₁ d₂ : D} {Q : Sto → Prop} (hs : IsSeq d [d₁, d₂]) (h : AE G k sc σ ex d₁ (AeK G k sc ey d₂ Q))
    (he : ∀ env, assignEach [ex, ey] env = [(false, assign ex env), (false, assign ey env)] := by intro _; rfl) : AE G k sc σ (.Tuple [ex, ey] n p) d Q := fun h₀ A env T I s v oa eo S r => by
  rw [arm_assign_Tuple, he]
  refine wpAny_bind (wpAny_standAt ?_)
  have hun : unpack v [(false, assign ex env), (false, assign ey env)] = (do assignInOrder [assign ex env, assign ey env] (← holding [v] (unpackItems v ([d₁, d₂] : List D).length none))) := rfl
  rw [hun]
  refine wpAny_bind (wpAny_holding (unpack_seq oa.handled hs r S.sub fun vs h' rl hk => ?_))
  have g : Grow s I { s with heap := h' } I := Grow.heap (t := s.toks) S.sub hk
  obtain ⟨v₁, q₁, rfl, r₁, rl₁⟩ := repL_cons.mp rl
  obtain ⟨v₂, q₂, rfl, r₂, rl₂⟩ := repL_cons.mp rl₁
  rw [repL_nil] at rl₂
  subst rl₂
  show wpAny _ A (do holding [v₂] (assign ex env v₁); assignInOrder [assign ey env] [v₂]) _ _ _
  refine wpAny_bind (wpAny_holding (wpAny_mono (h h₀ A env T I _ v₁ oa eo (S.grow g) r₁) (fun _ s₁ ⟨T₁, I₁, σ₁, x₁, S₁, q₁⟩ => ?_) fun _ _ x => x))
  show wpAny _ A (do holding [] (assign ey env v₂); assignInOrder [] []) _ _ _
  refine wpAny_bind (wpAny_holding (wpAny_mono (q₁ h₀ A env T₁ I₁ s₁ v₂ oa eo S₁ (r₂.mono x₁.sub)) (fun _ s₂ h₂ => ?_) fun _ _ x => x))
  exact wpAny_pure (At.of (Tr.of_grow g) (At.of x₁ h₂))

variable {Q : Out → Prop}
/-- «a, b = e» where e is no display of two -/
theorem s_assign_pair {elts : List Expr} {n : Nat} {p pos : Pos} {e : Expr} (h : PE G k sc (immR σ) e (PairK G k sc σ (.Tuple elts n p) Q))
    (hs : ∀ env, swapsWithSole [.Tuple elts n p] e pos.line env = pure false := by intro _; rfl) (hw : ∀ env, swappedStores [.Tuple elts n p] e env = pure none := by intro _; rfl) :
    S1 G k sc σ (.Assign [.Tuple elts n p] e pos) Q := fun h₀ A env T I s oa eo S =>
  Assign_Tuple (wpAny_mono (h A env _ s oa eo S.immN) (fun v s₁ ⟨J, d, g, r, q⟩ =>
    wpAny_mono (q h₀ A env T J s₁ v oa eo (S.grow g) r) (fun _ s₂ h₂ => At.of (Tr.of_grow g) h₂) fun _ _ x => x) fun _ _ x => x) (hs env) (hw env)

/-- «a = b = e» -/
theorem s_assign_two {x y : Str} {p₁ p₂ pos : Pos} {e : Expr} {i j : Nat} {c0 c1 : Cell} (hi : σ[i]? = some (x, c0))
    (h : PE G k sc (fullR σ) e fun d => Scal d ∧ (σ.set i (x, .imm d))[j]? = some (y, c1) ∧ Q (.next ((σ.set i (x, .imm d)).set j (y, .imm d))))
    (hs : ∀ env, swapsWithSole [.Name x p₁, .Name y p₂] e pos.line env = pure false := by intro _; rfl) (hw : ∀ env, swappedStores [.Name x p₁, .Name y p₂] e env = pure none := by intro _; rfl) :
    S1 G k sc σ (.Assign [.Name x p₁, .Name y p₂] e pos) Q := fun h₀ A env T I s oa eo S => by
  rw [exec_Assign, hs]
  refine wpAny_bind (wpAny_standAt (wpAny_bind (wpAny_pure ?_)))
  rw [if_neg (by decide)]
  refine wpAny_bind (wpAny_mono (h A env _ s oa eo S.fullN) (fun v s₁ ⟨J, d, g, r, sd, hj, q⟩ => ?_) fun _ _ x => x)
  rw [hw]
  refine wpAny_bind (wpAny_pure ?_)
  show wpAny _ A (do assignAll v [assign (.Name x p₁) env, assign (.Name y p₂) env]; pure Flow.next) _ _ s₁
  have g' := g.drop S.sub
  refine wpAny_bind ?_
  show wpAny _ A (do holding [v] (assign (.Name x p₁) env v); assign (.Name y p₂) env v) _ _ s₁
  refine wpAny_bind (wpAny_holding (wpAny_assign_Name ((S.grow g').store hi (c := .imm d) (sd.rep r) fun s₂ t S₂ => ?_)))
  refine wpAny_assign_Name (S₂.store hj (c := .imm d) (sd.rep r) fun s₃ t₃ S₃ => wpAny_pure ?_)
  exact show SPost G h₀ env T I s Q Flow.next s₃ from ⟨_, _, _, (Tr.of_grow g').trans (t.trans t₃), S₃, q⟩

/-- «x = [..]»: a list of the frame's own -/
theorem s_own {x : Str} {p' p pos : Pos} {es : List Expr} {i : Nat} {c0 : Cell} (hi : σ[i]? = some (x, c0)) (h : PL G k sc (immR σ) es fun ds => ds.length ≤ 1000 ∧ Q (.next (σ.set i (x, .own ds))))
    (hs : ∀ env, swapsWith (.List es p) (some (.Name x p')) pos.line env = pure false := by intro _; rfl) : S1 G k sc σ (.Assign [.Name x p'] (.List es p) pos) Q := fun h₀ A env T I s oa eo S => by
  refine wpAny_Assign_Name (List_ (wpAny_mono (h A env I s p oa eo S.immN) (fun vs s₁ ⟨J, ds, g, r, hl, q⟩ => ?_) fun _ _ x => x)) (hs env)
  refine wpAny_newObj_type ?_ (by show vs.toArray.size ≤ sizeLine; rw [List.size_toArray, r.length]; exact Nat.le_trans hl (by decide))
  have S₁ := S.grow g
  have hk : ∀ b o, s₁.heap.get? b = some o → (s₁.heap.push (lobj vs.toArray 0)).get? b = some o := fun b o e => Heap.get?_push_of_some _ e
  have g₂ : Grow s₁ J { s₁ with heap := s₁.heap.push (lobj vs.toArray 0) } J := Grow.heap (t := s₁.toks) g.sub' hk
  have S₂ := S₁.grow g₂
  have nT : s₁.heap.objs.size ∉ T := fun hb => S₁.live _ hb (size_none _)
  have nJ : J s₁.heap.objs.size = none := by
    cases e : J s₁.heap.objs.size with
    | none => rfl
    | some o => have := g.sub' _ _ e; rw [size_none] at this; cases this
  have S₃ : SIn G h₀ env (s₁.heap.objs.size :: T) J σ { s₁ with heap := s₁.heap.push (lobj vs.toArray 0) } := by
    obtain ⟨b0, b1, b2⟩ := S₂.base
    obtain ⟨m, cm, ns, cl, rp, ap⟩ := S₂.names
    refine ⟨⟨b0, b1, fun b hb => ?_⟩, S₂.sub, fun b hb => ?_, S₂.kind, S₂.nodup, S₂.kinds, .tail _ S₂.loc, fun b hb => ?_, fun n c e => ⟨.tail _ (S₂.cells n c e).1, (S₂.cells n c e).2⟩, S₂.apart, m, cm, ns, cl, fun x c hx => ?_, ap⟩
    · rcases List.mem_cons.mp hb with rfl | hb
      · exact none_of_keep S₁.base.2.1 (size_none _)
      · exact b2 b hb
    · rcases List.mem_cons.mp hb with rfl | hb
      · exact nJ
      · exact S₂.out b hb
    · rcases List.mem_cons.mp hb with rfl | hb
      · rw [Heap.get?_push_size _ rfl]; exact Option.some_ne_none _
      · exact S₂.live b hb
    · have := rp x c hx
      cases c with
      | no => trivial
      | imm d => exact this
      | own l => obtain ⟨a, e, y⟩ := this; exact ⟨a, e, .tail _ y.mem, y.loc, y.cell, y.obj⟩
  have t₃ : Tr T J { s₁ with heap := s₁.heap.push (lobj vs.toArray 0) } (s₁.heap.objs.size :: T) J { s₁ with heap := s₁.heap.push (lobj vs.toArray 0) } → True := fun _ => trivial
  have x₃ : Tr T I s (s₁.heap.objs.size :: T) J { s₁ with heap := s₁.heap.push (lobj vs.toArray 0) } := by
    have y := (Tr.of_grow (T := T) g).trans (Tr.of_grow g₂)
    refine ⟨y.same, y.keep, y.alive, y.sub, y.new, fun b hb => ?_⟩
    rcases List.mem_cons.mp hb with rfl | hb
    · exact .inr (none_of_keep g.keep (size_none _))
    · exact .inl hb
  refine S₃.store hi (c := .own ds) ⟨_, rfl, ⟨.head _, fun e => nT (e ▸ S₁.loc), fun n c e q => nT (q ▸ (S₁.cells n c e).1), _, _, Heap.get?_push_size _ rfl, by simpa using r⟩, fun m cm ns cl y l' hy hne e => ?_⟩ fun s₄ t₄ S₄ => ⟨_, _, _, x₃.trans t₄, S₄, q⟩
  -- no other name of the frame's has the new list
  obtain ⟨m', cm', ns', cl', rp', _⟩ := S₂.names
  obtain ⟨a, e', y'⟩ := rp' y _ hy
  have hm : m = m' := by
    obtain ⟨o, es, ep, h1, h2, h3, h4⟩ := ns
    obtain ⟨o', es', ep', g1, g2, g3, g4⟩ := ns'
    rw [h1] at g1; cases g1
    rw [h2] at g2; cases g2
    funext z; rw [← h4 z, g4 z]
  have hcur : cur env m cm y = cur env m' cm' y := by
    unfold cur
    split
    · rw [hm]
    · rename_i hk
      obtain ⟨_, k2⟩ := S₂.kinds y (List.mem_map.mpr ⟨_, hy, rfl⟩)
      rcases k2 with k2 | ⟨_, c, k3⟩
      · exact absurd k2 hk
      · obtain ⟨o, h1, h2⟩ := cl y c k3
        obtain ⟨o', g1, g2⟩ := cl' y c k3
        rw [h1] at g1; cases g1
        rw [h2] at g2
        exact Data.cell.inj g2
  rw [hcur, e'] at e
  cases e
  exact nT y'.mem
end

-- C7
set_option maxRecDepth 512
noncomputable def plOf (o : Expr) (env : Env) : Sem Bool := do return (← importBound o env).getD true

theorem method_wp {M : Model} {A : Around} {E : Value → Shared → Prop} {s : Shared} {env : Env} {o : Expr} {name : Str} {apos pos : Pos} {args : List Expr} {Q : Value → Shared → Prop}
    (hb : attributeBase o name env (eval o env) = eval o env) (hp : (apos.endLine == pos.line) = true) (hf : methodCallForm (args.length + 0) (backTo pos (starEach args env)) [] = true)
    (h : wpAny M A (eval o env) (fun ov s₁ => wpAny M A (getMethod ov name (plOf o env)) (fun fx s₂ => wpAny M A (callWith pos fx.1 fx.2 (backTo pos (starEach args env)) []) Q E s₂) E s₁) E s) :
    wpAny M A (eval (.Call (.Attribute o name apos) args [] pos) env) Q E s := by
  have he : eval (.Call (.Attribute o name apos) args [] pos) env = (do
      let ov ← attributeBase o name env (eval o env)
      standAt apos.atName
      methodCall o name apos pos env ov (args.length + 0) (backTo pos (starEach args env)) []) := rfl
  rw [he, hb]
  refine wpAny_bind (wpAny_mono h (fun ov s₁ h₁ => wpAny_bind (wpAny_standAt ?_)) fun _ _ x => x)
  unfold methodCall
  rw [hf]
  refine wpAny_bind (wpAny_holding (wpAny_mono (show wpAny M A (calleeOf true o env ov name) _ E s₁ from h₁) (fun fx s₂ h₂ => ?_) fun _ _ x => x))
  have hc : methodCallPos true o env apos pos = pure pos := by
    unfold methodCallPos
    rw [hp]; rfl
  dsimp only
  rw [hc]
  exact wpAny_bind (wpAny_pure h₂)

section
variable {G : Gd} {k : Nat} {sc : Scope} {σ : Sto} {Q : Out → Prop}

/-- one own list has changed -/
theorem SIn.ownSet {h₀ : Heap} {env : Env} {T : List Addr} {I : Store} {s : Shared} (S : SIn G h₀ env T I σ s) {i : Nat} {x : Str} {l l' : List D} (hi : σ[i]? = some (x, .own l)) {a : Addr} {n' : Nat} {vs' : Array Value} {h' : Heap} {t : Nat}
    (hx : Val env s.heap x (.ref a)) (hs : Heap.SameBut a s.heap h') (ho : h'.get? a = some (lobj vs' n')) (r : RepL I l' vs'.toList) :
    Tr T I s T I { s with heap := h', toks := t } ∧ SIn G h₀ env T I (σ.set i (x, .own l')) { s with heap := h', toks := t } := by
  obtain ⟨m, cm, ns, cl, rp, ap⟩ := S.names
  obtain ⟨b0, b1, b2⟩ := S.base
  have hmem := List.mem_of_getElem? hi
  obtain ⟨a', e, y⟩ := rp x _ hmem
  have haa : cur env m cm x = some (.ref a) := by
    unfold cur
    rcases hx with ⟨k1, m', n', e'⟩ | ⟨k1, c, k3, hc⟩
    · rw [if_pos k1]
      obtain ⟨o, es, ep, h1, h2, h3, h4⟩ := ns
      obtain ⟨o', es', ep', g1, g2, g3, g4⟩ := n'
      rw [h1] at g1; cases g1
      rw [h2] at g2; cases g2
      rw [← h4, g4]; exact e'
    · rw [if_neg (by rcases k1 with k1 | ⟨k1, _⟩ <;> rw [k1] <;> decide)]
      obtain ⟨o, h1, h2⟩ := cl x c k3
      obtain ⟨o', g1, g2⟩ := hc
      rw [h1] at g1; cases g1
      rw [h2] at g2
      exact Data.cell.inj g2
  rw [haa] at e
  cases e
  have keep : ∀ b o, b ∉ T → s.heap.get? b = some o → h'.get? b = some o := fun b o hb e => (hs.2 b fun q => hb (q ▸ y.mem)).trans e
  have aliv : ∀ b, h'.get? b = none → s.heap.get? b = none := fun b e => by
    by_cases hq : b = a
    · subst hq; rw [ho] at e; cases e
    · rw [← hs.2 b hq]; exact e
  refine ⟨⟨⟨h', t, rfl⟩, keep, aliv, .refl _, fun _ _ e => .inl e, fun _ e => .inl e⟩, ⟨b0, fun b o e => keep b o (fun q => by rw [b2 b q] at e; cases e) (b1 b o e), b2⟩, fun b o e => keep b o (fun q => by rw [S.out b q] at e; cases e) (S.sub b o e), S.out, S.kind, ?_, ?_, S.loc,
    fun b hb e => S.live b hb (aliv b e), S.cells, S.apart, m, cm, ns.sameBut hs (Ne.symm y.loc), fun n c e => (cl n c e).sameBut hs (y.cell n c e), ?_, ?_⟩
  · rw [set_fst hi]; exact S.nodup
  · rw [set_fst hi]; exact S.kinds
  · intro z c hz
    rcases mem_set_of hi S.nodup hz with ⟨rfl, rfl⟩ | ⟨hz, hne⟩
    · exact ⟨a, haa, y.mem, y.loc, y.cell, n', vs', ho, r⟩
    · have := rp z c hz
      cases c with
      | no => trivial
      | imm d => exact this
      | own l₂ =>
        obtain ⟨b, e, w⟩ := this
        obtain ⟨n, vs, g1, g4⟩ := w.obj
        refine ⟨b, e, w.mem, w.loc, w.cell, n, vs, (hs.2 b fun q => ?_).trans g1, g4⟩
        exact ap z _ x _ hz hmem hne (by rw [e, haa, q])
  · intro z l₁ w l₂ hz hw hne
    have f : ∀ {z l₁}, (z, Cell.own l₁) ∈ σ.set i (x, .own l') → ∃ l₁', (z, Cell.own l₁') ∈ σ := fun {z l₁} hz => by
      rcases mem_set_of hi S.nodup hz with ⟨rfl, _⟩ | ⟨hz, _⟩
      · exact ⟨_, hmem⟩
      · exact ⟨_, hz⟩
    obtain ⟨_, hz'⟩ := f hz
    obtain ⟨_, hw'⟩ := f hw
    exact ap z _ w _ hz' hw' hne

theorem mem_full_own {x : Str} {l : List D} {i : Nat} (hi : σ[i]? = some (x, .own l)) : (x, D.list l) ∈ fullR σ := by
  induction σ generalizing i with
  | nil => simp at hi
  | cons q r ih =>
    cases i with
    | zero => simp at hi; subst hi; exact .head _
    | succ i =>
      simp at hi
      have := ih hi
      obtain ⟨y, c⟩ := q
      cases c with
      | no => exact this
      | imm d => exact .tail _ this
      | own l => exact .tail _ this

/-- the value of an own name, and its list -/
theorem SIn.own {h₀ : Heap} {env : Env} {T : List Addr} {I : Store} {s : Shared} (S : SIn G h₀ env T I σ s) {i : Nat} {x : Str} {l : List D} (hi : σ[i]? = some (x, .own l)) :
    (x == ("__debug__" : Str)) = false ∧ ∃ a n vs, Val env s.heap x (.ref a) ∧ s.heap.get? a = some (lobj vs n) ∧ RepL I l vs.toList ∧ a ∈ T := by
  obtain ⟨m, cm, ns, cl, rp, ap⟩ := S.names
  have hmem := List.mem_of_getElem? hi
  obtain ⟨a, e, y⟩ := rp x _ hmem
  obtain ⟨n, vs, g1, g4⟩ := y.obj
  obtain ⟨k1, k2⟩ := S.kinds x (List.mem_map.mpr ⟨_, hmem, rfl⟩)
  refine ⟨k1, a, n, vs, ?_, g1, g4, y.mem⟩
  unfold cur at e
  rcases k2 with k2 | ⟨k2, c, k3⟩
  · rw [if_pos k2] at e; exact .inl ⟨k2, m, ns, e⟩
  · rw [if_neg (by rw [k2]; decide)] at e
    exact .inr ⟨.inl k2, c, k3, e ▸ cl x c k3⟩

theorem s_append {x : Str} {px ap cp pos : Pos} {e : Expr} {i : Nat} {l : List D} (hi : σ[i]? = some (x, .own l)) (hl : l.length ≤ 100000) (h : PE G k sc (immR σ) e fun d => Q (.next (σ.set i (x, .own (l ++ [d])))))
    (hp : (ap.endLine == cp.line) = true := by rfl) (he : ∀ env, starEach [e] env = [(false, eval e env)] := by intro _; rfl) :
    S1 G k sc σ (.Expr (.Call (.Attribute (.Name x px) "append" ap) [e] [] cp) pos) Q := fun h₀ A env T I s oa eo S => by
  obtain ⟨hd, a, n, vs, V, ho, r, hT⟩ := S.own hi
  refine wpAny_Expr ?_ (by unfold interactive; rw [S.kind]; rfl)
  refine method_wp rfl hp (by rw [he]; rfl) ?_
  refine wpAny_Name (V.load S.kind ?_) hd
  refine getMethod_list_append ho rfl rfl ?_
  have hpl : PL G k sc (immR σ) [e] fun ds => ∃ d, ds = [d] ∧ Q (.next (σ.set i (x, .own (l ++ [d])))) := pl_cons (h.mono fun d q => pl_nil ⟨d, rfl, q⟩) (fun env => (he env).trans rfl)
  refine callWith_method1 (wpAny_mono (hpl A env I s cp oa eo S.immN) (fun us s₁ ⟨J, ds, g, rl, d, hds, q⟩ => ?_) fun _ _ x => x) ((he env).trans rfl) rfl
  subst hds
  obtain ⟨v, q', rfl, rv, rn⟩ := repL_cons.mp rl
  rw [repL_nil] at rn
  subst rn
  have S₁ := S.grow g
  refine wpAny_list_append_plain (items := vs) ⟨n, g.keep _ _ ho⟩ (fun h' hl' hs' => ?_) ?_
  · obtain ⟨n', ho'⟩ := hl'
    obtain ⟨t, S₂⟩ := S₁.ownSet hi (l' := l ++ [d]) (t := s₁.toks) (V.keeps g.keep) hs' ho' (by simpa using (r.mono g.sub).append (repL_cons.mpr ⟨v, [], rfl, rv, repL_nil.mpr rfl⟩))
    exact ⟨_, _, _, (Tr.of_grow g).trans t, S₂, q⟩
  · have := r.length
    have e2 : vs.size = l.length := by rw [← this]; simp
    rw [e2]; exact Nat.le_trans hl (by decide)

theorem mapSeq_set_plain (its : Array Value) (n i : Nat) (x : Value) : Obj.mapSeq (·.setIfInBounds i x) (lobj its n) = lobj (its.setIfInBounds i x) n := by
  simp [Obj.mapSeq]
theorem setItem_plain {A : Around} {E : Value → Shared → Prop} {s : Shared} {l : Addr} {n : Nat} {items : Array Value} {k : Int} {t : Tok} {v : Value} {Q : Unit → Shared → Prop} (ho : s.heap.get? l = some (lobj items n))
    (h0 : 0 ≤ k) (hfit : k < 2 ^ 63) (hn : k < items.size)
    (hQ : ∀ h', h'.get? l = some (lobj (items.setIfInBounds k.toNat v) n) → Heap.SameBut l s.heap h' → Q () { s with heap := h' }) :
    wpAny G.M A (setItem (.ref l) (.int k t) v) Q E s := by
  have hl : s.heap.IsList l items := ⟨_, ho, rfl, n, rfl⟩
  unfold setItem
  try with_reducible refine wpAny_holding ?_
  first | refine wpAny_bind (wpAny_pure ?_) | skip
  refine wpAny_bind (wpAny_sequenceKey hl.typeIs (by decide) ?_)
  refine wpAny_bind (wpAny_callSpecial?_slot (name := Str.ofString "__setitem__") hl.typeIs slot_list_setitem
    (wpAny_call_entry slot_list_setitem hl.typeIs entry_list_setitem ?_ (args_list_setitem _ _ _)))
  show wpAny _ _ (Builtin.List.listSubscript? (.int k t) >>= _) _ _ s
  refine wpAny_bind (wpAny_listSubscript_int (fitsIndex_of h0 hfit) ?_)
  clear hfit
  obtain ⟨j, rfl⟩ := Int.eq_ofNat_of_zero_le h0
  have hj : j < items.size := by omega
  have hx' : items[j]? = some items[j] := Array.getElem?_eq_getElem hj
  show wpAny _ _ ((seqItemAt l j >>= fun r => pure (r.map (j, ·))) >>= _) _ _ s
  refine wpAny_bind (wpAny_bind (wpAny_seqItemAt ho rfl (wpAny_pure ?_)))
  rw [hx']
  show wpAny _ _ (setSeqItemAt l j v >>= _) _ _ s
  have hfin : (s.heap.update l (Obj.mapSeq (·.setIfInBounds j v))).get? l = some (lobj (items.setIfInBounds j v) n) := by
    rw [Heap.get?_update_self _ ho (by rw [mapSeq_set_plain]; rfl), mapSeq_set_plain]
  refine wpAny_bind (wpAny_setSeqItemAt ho rfl ?_)
  first
    | exact wpAny_bind (wpAny_pure (wpAny_pure ⟨.none, rfl, wpAny_pure (hQ _ hfin (Heap.SameBut.update ..))⟩))
    | exact wpAny_pure ⟨.none, rfl, wpAny_pure (hQ _ hfin (Heap.SameBut.update ..))⟩

theorem s_setitem {x y : Str} {px py sp pos : Pos} {e : Expr} {i : Nat} {l : List D} {j : Int} (hi : σ[i]? = some (x, .own l)) (hy : (y, D.int j) ∈ immR σ) (hj : 0 ≤ j ∧ j.toNat < l.length ∧ j < 2 ^ 63)
    (h : PE G k sc (immR σ) e fun d => Q (.next (σ.set i (x, .own (l.set j.toNat d)))))
    (hs : ∀ env, swapsWith e (some (.Subscript (.Name x px) (.Name y py) sp)) pos.line env = pure false := by intro _; rfl) :
    S1 G k sc σ (.Assign [.Subscript (.Name x px) (.Name y py) sp] e pos) Q := fun h₀ A env T I s oa eo S => by
  refine wpAny_Assign_Subscript (wpAny_mono (h A env I s oa eo S.immN) (fun v s₁ ⟨J, d, g, rv, q⟩ => ?_) fun _ _ x => x) (hs env)
  have S₁ := S.grow g
  obtain ⟨hd, a, n, vs, V, ho, r, hT⟩ := S₁.own hi
  refine wpAny_Name (V.load S.kind ?_) hd
  obtain ⟨hd2, u, V2, ru⟩ := S₁.immN.val y _ hy
  refine wpAny_Name (V2.load S.kind ?_) hd2
  obtain ⟨tk, rfl⟩ := rep_int.mp ru
  have e2 : vs.size = l.length := by rw [← r.length]; simp
  refine setItem_plain ho hj.1 hj.2.2 (by rw [e2]; omega) fun h' ho' hs' => ?_
  obtain ⟨t, S₂⟩ := S₁.ownSet hi (l' := l.set j.toNat d) (t := s₁.toks) V hs' ho' (by simpa using r.set j.toNat rv)
  exact show SPost G h₀ env T I s Q Flow.next _ from ⟨_, _, _, (Tr.of_grow g).trans t, S₂, q⟩

/-- «a, b = b, a» -/
theorem s_swap {x y : Str} {p₁ p₂ p₃ p₄ tp ep pos : Pos} {n n' : Nat} {i j : Nat} {d₁ d₂ : D} (hi : σ[i]? = some (x, .imm d₁)) (hj : σ[j]? = some (y, .imm d₂)) (hj' : (σ.set j (y, .imm d₁))[i]? = some (x, .imm d₁))
    (hx : (x, d₁) ∈ immR σ) (hy : (y, d₂) ∈ immR σ) (h : Q (.next ((σ.set j (y, .imm d₁)).set i (x, .imm d₂))))
    (hsw : ∀ env, swapsWithSole [.Tuple [.Name x p₁, .Name y p₂] n tp] (.Tuple [.Name y p₃, .Name x p₄] n' ep) pos.line env = pure false := by intro _; rfl)
    (hw : ∀ env, env.scope = sc → swappedStores [.Tuple [.Name x p₁, .Name y p₂] n tp] (.Tuple [.Name y p₃, .Name x p₄] n' ep) env = pure (some [x, y])) :
    S1 G k sc σ (.Assign [.Tuple [.Name x p₁, .Name y p₂] n tp] (.Tuple [.Name y p₃, .Name x p₄] n' ep) pos) Q := fun h₀ A env T I s oa eo S => by
  have hp : PE G k sc (immR σ) (.Tuple [.Name y p₃, .Name x p₄] n' ep) fun d => d = .tup [d₂, d₁] := pe_tuple (pl_cons (pe_name hy (pl_cons (pe_name hx (pl_nil ⟨by simp, rfl⟩)))))
  refine Assign_Tuple_swapped (names := [x, y]) (wpAny_mono (hp A env I s oa eo S.immN) (fun v s₁ ⟨J, d, g, r, hd⟩ => ?_) fun _ _ x => x) (hsw env) (hw env eo.scope)
  subst hd
  refine unpack_seq (l := [d₂, d₁]) oa.handled (.tup _) r g.sub' fun vs h' rl hk => ?_
  have g₂ : Grow s₁ J { s₁ with heap := h' } J := Grow.heap (t := s₁.toks) g.sub' hk
  have S₂ := (S.grow g).grow g₂
  obtain ⟨v₁, q₁, rfl, r₁, rl₁⟩ := repL_cons.mp rl
  obtain ⟨v₂, q₂, rfl, r₂, rl₂⟩ := repL_cons.mp rl₁
  rw [repL_nil] at rl₂
  subst rl₂
  show wpAny _ A (do holding [v₁] (bindName env y v₂); assignInOrder [fun v => bindName env x v] [v₁]) _ _ _
  refine wpAny_bind (wpAny_holding (wpAny_bindName (S₂.store hj (c := .imm d₁) r₂ fun s₃ t₃ S₃ => ?_)))
  show wpAny _ A (do holding [] (bindName env x v₁); assignInOrder [] []) _ _ _
  refine wpAny_bind (wpAny_holding (wpAny_bindName (S₃.store hj' (c := .imm d₂) r₁ fun s₄ t₄ S₄ => ?_)))
  exact wpAny_pure (show SPost G h₀ env T I s Q Flow.next s₄ from ⟨_, _, _, (Tr.of_grow (g.trans g₂)).trans (t₃.trans t₄), S₄, h⟩)
end

-- C8
set_option maxRecDepth 512
theorem bindL_skip {kd : Str → Option NameKind} : ∀ (bs : List (Str × Value)) (m : Str → Option Value) (x : Str), x ∉ bs.map Prod.fst → bindL kd bs m x = m x
  | [], _, _, _ => rfl
  | (n, v) :: r, m, x, h => by
    simp only [List.map_cons, List.mem_cons, not_or] at h
    unfold bindL
    rw [bindL_skip r _ x h.2]
    split
    · simp [h.1]
    · rfl
theorem bindC_skip {kd : Str → Option NameKind} : ∀ (bs : List (Str × Value)) (m : Str → Option Value) (x : Str), x ∉ bs.map Prod.fst → bindC kd bs m x = m x
  | [], _, _, _ => rfl
  | (n, v) :: r, m, x, h => by
    simp only [List.map_cons, List.mem_cons, not_or] at h
    unfold bindC
    rw [bindC_skip r _ x h.2]
    split
    · rfl
    · simp [h.1]
theorem bindL_mem {kd : Str → Option NameKind} : ∀ (bs : List (Str × Value)) (m : Str → Option Value) (x : Str) (v : Value), (bs.map Prod.fst).Nodup → (x, v) ∈ bs → kd x = some .local → bindL kd bs m x = some v
  | (n, u) :: r, m, x, v, hn, hm, hk => by
    have hn' := List.nodup_cons.mp hn
    unfold bindL
    rcases List.mem_cons.mp hm with e | hm
    · cases e
      rw [bindL_skip r _ n hn'.1, if_pos hk]; simp
    · exact bindL_mem r _ x v hn'.2 hm hk
theorem bindC_mem {kd : Str → Option NameKind} : ∀ (bs : List (Str × Value)) (m : Str → Option Value) (x : Str) (v : Value), (bs.map Prod.fst).Nodup → (x, v) ∈ bs → ¬ kd x = some .local → bindC kd bs m x = some v
  | (n, u) :: r, m, x, v, hn, hm, hk => by
    have hn' := List.nodup_cons.mp hn
    unfold bindC
    rcases List.mem_cons.mp hm with e | hm
    · cases e
      rw [bindC_skip r _ n hn'.1, if_neg hk]; simp
    · exact bindC_mem r _ x v hn'.2 hm hk

/-- the frame's names at the start -/
noncomputable def sto0 (params : List Str) (ds : List D) (others : List Str) : Sto := (params.zip ds).map (fun p => (p.1, .imm p.2)) ++ others.map fun x => (x, .no)

structure FnAt (G : Gd) (a : Addr) (sc : Scope) (body : List Stmt) (params : List Str) : Prop where
  at_ : ∀ h, G.B h → ∃ o fd, h.get? a = some o ∧ o.data = .func fd ∧ h.CodeRec fd.code fd.qualname ∧ fd.scope = sc ∧ fd.body = .stmts body ∧ fd.globals = mainGlobals ∧ fd.closure = [] ∧ fd.builtins = builtinsNs ∧
    ∀ vs : List Value, vs.length = params.length → bindArgs fd ⟨vs, []⟩ = pure (params.zip vs)

/-- what is to be seen of the names of a def, by their table alone -/
noncomputable def namesOk (sc : Scope) (params others : List Str) : Bool :=
  decide (sc.kind = .function) && !sc.isCoroutine && !sc.isGenerator && decide (params ++ others).Nodup &&
  (params ++ others).all (fun x => !(x == ("__debug__" : Str)) && (decide (sc.names.lookup x = some .local) || (decide (sc.names.lookup x = some .cell) && ((cellsFrom 0 sc.names []).lookup x).isSome)))

theorem cellsFrom_isSome : ∀ (names : List (Str × NameKind)) (n m : Nat) (a b : List (Str × Addr)) (x : Str), ((a.lookup x).isSome = (b.lookup x).isSome) → ((cellsFrom n names a).lookup x).isSome = ((cellsFrom m names b).lookup x).isSome
  | [], _, _, _, _, _, h => h
  | (y, kd) :: r, n, m, a, b, x, h => by
    unfold cellsFrom
    split
    · refine cellsFrom_isSome r (n + 1) (m + 1) _ _ x ?_
      simp only [List.lookup_cons]
      split
      · rfl
      · exact h
    · exact cellsFrom_isSome r n m a b x h

theorem mem_sto0 {params others : List Str} {ds : List D} {x : Str} {c : Cell} (h : (x, c) ∈ sto0 params ds others) : (∃ d, c = .imm d ∧ (x, d) ∈ params.zip ds) ∨ c = .no := by
  unfold sto0 at h
  rcases List.mem_append.mp h with h | h
  · obtain ⟨p, hp, e⟩ := List.mem_map.mp h
    cases e
    exact .inl ⟨_, rfl, hp⟩
  · obtain ⟨p, hp, e⟩ := List.mem_map.mp h
    cases e
    exact .inr rfl
theorem sto0_names {params others : List Str} {ds : List D} (h : ds.length = params.length) : (sto0 params ds others).map Prod.fst = params ++ others := by
  unfold sto0
  rw [List.map_append, List.map_map, List.map_map]
  congr 1
  · have : (Prod.fst ∘ fun (p : Str × D) => (p.1, Cell.imm p.2)) = Prod.fst := rfl
    rw [this, List.map_fst_zip (by omega)]
  · have : (Prod.fst ∘ fun (x : Str) => (x, Cell.no)) = id := rfl
    rw [this, List.map_id]

theorem zip_rep {I : Store} : ∀ {params : List Str} {ds : List D} {vs : List Value}, RepL I ds vs → ∀ {x : Str} {d : D}, (x, d) ∈ params.zip ds → ∃ v, (x, v) ∈ params.zip vs ∧ Rep I d v
  | [], _, _, _, _, _, h => by simp at h
  | p :: ps, [], vs, r, x, d, h => by simp at h
  | p :: ps, d' :: ds, vs, r, x, d, h => by
    obtain ⟨v, q, rfl, a, b⟩ := repL_cons.mp r
    simp only [List.zip_cons_cons, List.mem_cons] at h
    rcases h with e | h
    · cases e; exact ⟨v, by simp, a⟩
    · obtain ⟨u, h1, h2⟩ := zip_rep b h; exact ⟨u, by simp [h1], h2⟩

noncomputable def endQ (Q : D → Prop) : Out → Prop
  | .ret d => Q d
  | .next _ => Q .none
  | .brk _ => False
  | .cont _ => False

noncomputable def liveCells (cs : List (Str × Addr)) : List Addr := (cs.filter fun p => decide (cs.lookup p.1 = some p.2)).map Prod.snd
theorem mem_liveCells {cs : List (Str × Addr)} {c : Addr} (h : c ∈ liveCells cs) : ∃ n, cs.lookup n = some c := by
  obtain ⟨⟨n, c'⟩, hp, rfl⟩ := List.mem_map.mp h
  exact ⟨n, of_decide_eq_true (List.mem_filter.mp hp).2⟩
theorem liveCells_mem {cs : List (Str × Addr)} {n : Str} {c : Addr} (h : cs.lookup n = some c) : c ∈ liveCells cs :=
  List.mem_map.mpr ⟨(n, c), List.mem_filter.mpr ⟨mem_of_lookup h, decide_eq_true h⟩, rfl⟩
theorem fn_spec {G : Gd} {k : Nat} {a : Addr} {sc : Scope} {body : List Stmt} {params others : List Str} {ds : List D} {Q : D → Prop} (F : FnAt G a sc body params) (hn : namesOk sc params others = true) (hl : ds.length = params.length)
    (h : SE G k sc (sto0 params ds others) body (endQ Q)) : OpL G (k + 1) (fun vs => call (.ref a) vs) ds Q := fun A I s vs oa hB hI rl => by
  obtain ⟨o, fd, ho, hd, hc, hsc, hbd, hgl, hcl, hbu, hbind⟩ := F.at_ _ hB
  unfold namesOk at hn
  simp only [Bool.and_eq_true, Bool.not_eq_true', decide_eq_true_eq, List.all_eq_true, Bool.or_eq_true] at hn
  obtain ⟨⟨⟨⟨hk, hco⟩, hge⟩, hnd⟩, hnames⟩ := hn
  have hvl : vs.length = params.length := rl.length.trans hl
  have hnd1 : params.Nodup := (List.nodup_append.mp hnd).1
  refine wpAny_call (codeAny_call_function (by have := oa.depth; show A.depth < 1000; omega) ho hd (by rw [hsc]; exact hco) (by rw [hsc]; exact hge) hbd hc ?_)
  rw [hbind vs hvl]
  refine wpAny_pure ?_
  rw [hcl, hsc, hgl, hbu]
  have hkinds : ∀ (n : Nat), ∀ x ∈ params.zip vs, sc.names.lookup x.1 = some .local ∨ (sc.names.lookup x.1 = some .cell ∧ ((cellsFrom n sc.names []).lookup x.1).isSome = true) := fun n x hx => by
    have hx' : x.1 ∈ params := (List.of_mem_zip hx).1
    refine (hnames x.1 (List.mem_append_left _ hx')).2.imp id fun ⟨a, b⟩ => ⟨a, ?_⟩
    rw [cellsFrom_isSome sc.names n 0 [] [] x.1 rfl]; exact b
  refine wpAny_newFunctionEnv_cells hk (hkinds _) fun env he s₁ X => ?_
  have e1 : env.scope = sc := by rw [he]; rfl
  have e2 : env.globals = mainGlobals := by rw [he]; rfl
  have e3 : env.builtins = builtinsNs := by rw [he]; rfl
  have e4 : env.locals = s.heap.objs.size := by rw [he]; rfl
  have e5 : env.cells = cellsFrom (s.heap.objs.size + 1) sc.names [] := by rw [he]; rfl
  refine ⟨(G.nolim hB).keeps X.toInCall.keep, codeAny_func ?_⟩
  have fresh : ∀ b, s.heap.objs.size ≤ b → s.heap.get? b = none := fun b hb => by
    cases e : s.heap.get? b with
    | none => rfl
    | some o => exact absurd (Heap.lt_size e) (Nat.not_lt.mpr hb)
  have hTfresh : ∀ b ∈ env.locals :: liveCells env.cells, s.heap.get? b = none := fun b hb => by
    rcases List.mem_cons.mp hb with rfl | hb
    · exact fresh _ (Nat.le_of_eq e4.symm)
    · obtain ⟨n, hn⟩ := mem_liveCells hb
      have := X.above n b (mem_of_lookup hn)
      exact fresh _ (by rw [e4] at this; exact Nat.le_of_lt this)
  have hIn : ∀ b, s.heap.get? b = none → I b = none := fun b e => by
    cases q : I b with
    | none => rfl
    | some o => rw [hI b o q] at e; cases e
  have hkd : ∀ x, env.kindOf x = sc.names.lookup x := fun x => by rw [Env.kindOf, e1]
  have S : SIn G s.heap env (env.locals :: liveCells env.cells) I (sto0 params ds others) s₁ := by
    refine ⟨⟨hB, X.toInCall.keep, hTfresh⟩, fun b o e => X.toInCall.keep b o (hI b o e), fun b hb => hIn b (hTfresh b hb), by rw [e1]; exact hk, by rw [sto0_names hl]; exact hnd, fun x hx => ?_, .head _, fun b hb => ?_,
      fun n c e => ?_, fun n n' c e e' => name_of_addr X.apart (mem_of_lookup e) (mem_of_lookup e'), _, _, X.toInCall.ns, X.cell, fun x c hx => ?_, fun x l y l' hx hy => ?_⟩
    · rw [sto0_names hl] at hx
      obtain ⟨h1, h2⟩ := hnames x hx
      refine ⟨by simpa using h1, h2.imp (fun q => (hkd x).trans q) fun ⟨q, w⟩ => ⟨(hkd x).trans q, ?_⟩⟩
      rw [e5]
      rw [cellsFrom_isSome sc.names 0 (s.heap.objs.size + 1) [] [] x rfl] at w
      exact Option.isSome_iff_exists.mp w
    · rcases List.mem_cons.mp hb with rfl | hb
      · obtain ⟨oL, _, _, hL, _⟩ := X.toInCall.ns
        rw [hL]; exact Option.some_ne_none _
      · obtain ⟨n, hn⟩ := mem_liveCells hb
        obtain ⟨o, ho, _⟩ := X.cell n b hn
        rw [ho]; exact Option.some_ne_none _
    · exact ⟨.tail _ (liveCells_mem e), Nat.ne_of_gt (X.above n c (mem_of_lookup e))⟩
    · rcases mem_sto0 hx with ⟨d, rfl, hm⟩ | rfl
      · obtain ⟨v, hv, r⟩ := zip_rep rl hm
        refine ⟨v, ?_, r⟩
        have hnn : ((params.zip vs).map Prod.fst).Nodup := by rw [List.map_fst_zip (by omega)]; exact hnd1
        unfold cur
        split
        · rename_i hq; exact bindL_mem _ _ x v hnn hv hq
        · rename_i hq; exact bindC_mem _ _ x v hnn hv hq
      · trivial
    · rcases mem_sto0 hx with ⟨d, e, _⟩ | e <;> cases e
  refine wpAny_mono (h s.heap _ env _ I s₁ (oa.deeper env) ⟨e1, hk, e2, e3⟩ S) (fun f s' p => ?_) fun _ _ x => x.elim
  have fin : ∀ {T' I'}, Tr (env.locals :: liveCells env.cells) I s₁ T' I' s' → Sub I' s'.heap.get? → Grow s I s' I' := fun {T' I'} x hs => by
    refine ⟨?_, fun b o e => x.keep b o (fun q => by rw [hTfresh b q] at e; cases e) (X.toInCall.keep b o e), x.sub, hs, fun b o e => ?_⟩
    · obtain ⟨h, t, q⟩ := X.toInCall.same
      obtain ⟨h', t', q'⟩ := x.same
      exact ⟨h', t', by rw [q', q]⟩
    · rcases x.new b o e with q | q | q
      · exact .inl q
      · exact .inr (hTfresh b q)
      · exact .inr (none_of_keep X.toInCall.keep q)
  cases f with
  | next =>
    obtain ⟨T', I', σ', x, S', q⟩ := p
    exact ⟨I', .none, fin x S'.sub, rep_none.mpr rfl, q⟩
  | brk => obtain ⟨T', I', σ', x, S', q⟩ := p; exact q.elim
  | cont => obtain ⟨T', I', σ', x, S', q⟩ := p; exact q.elim
  | ret v =>
    obtain ⟨T', I', d, x, hs, r, q⟩ := p
    exact ⟨I', d, fin x hs, r, q⟩

-- C9
set_option maxRecDepth 512
theorem evalArgs_any {M : Model} {A : Around} {E : Value → Shared → Prop} {s : Shared} {f : Value} {xs : List (Bool × Sem Value)} {Q : Args → Shared → Prop} (hp : xs.any (·.1) = false)
    (h : wpAny M A (spliced xs) (fun vs s' => Q ⟨vs, []⟩ s') E s) : wpAny M A (evalArgs f true xs []) Q E s := by
  cases xs with
  | nil =>
    unfold evalArgs
    show wpAny M A (spliced [] >>= _) Q E s
    refine wpAny_bind (wpAny_mono h (fun vs s' h' => ?_) fun _ _ x => x)
    refine wpAny_holding ?_
    exact wpAny_bind (wpAny_pure (wpAny_bind (wpAny_pure (wpAny_pure h'))))
  | cons x rest =>
    obtain ⟨b, t⟩ := x
    simp only [List.any_cons, Bool.or_eq_false_iff] at hp
    obtain ⟨rfl, _⟩ := hp
    exact evalArgs_plain h

section
variable {G : Gd} {k : Nat} {sc : Scope} {ρ : List (Str × D)} {Q : D → Prop}

/-- a function of the program -/
theorem pe_call {f : Str} {fp pos : Pos} {a : Addr} {args : List Expr} (hx : (f, .ref a) ∈ G.gl) (hk : sc.names.lookup f = some .globalImplicit) (hf : ∀ h, G.B h → ∃ o fd, h.get? a = some o ∧ o.data = .func fd)
    (h : PL G k sc ρ args (OpLK G k (fun vs => call (.ref a) vs) Q)) (hp : ∀ env pos, (backTo pos (starEach args env)).any (·.1) = false := by intro _ _; rfl) : PE G k sc ρ (.Call (.Name f fp) args [] pos) Q := fun A env I s oa eo N => by
  have hn : PE G k sc ρ (.Name f fp) fun d => d = .val (.ref a) := pe_glob hx hk (d := .val (.ref a)) (fun I => rep_val.mpr rfl) rfl
  refine Call_ (then_PE hn oa eo N fun v s₁ I₁ d g₁ N₁ r₁ q₁ => ?_)
  subst q₁
  rw [rep_val] at r₁
  subst r₁
  obtain ⟨o, fd, ho, hd⟩ := hf _ N₁.base
  refine callWith_function (o := o) (fd := fd) (evalArgs_any (hp env pos) (wpAny_mono (h A env I₁ s₁ pos oa eo N₁) (fun vs s₂ ⟨J, ds, g₂, r₂, q₂⟩ => ?_) fun _ _ x => x))
  refine ⟨⟨g₂.keep _ _ ho, hd⟩, ?_⟩
  have N₂ := N₁.grow g₂
  exact wpAny_mono (q₂ A J s₂ vs oa N₂.base N₂.sub r₂) (fun _ _ x => .of (g₁.trans g₂) x) fun _ _ x => x

/-- a built-in function -/
theorem pe_builtin {f : Str} {fp pos : Pos} {id : String} {args : List Expr} (hx : (f, .builtin id) ∈ G.gl) (hk : sc.names.lookup f = some .globalImplicit)
    (h : PL G k sc ρ args (OpLK G k (fun vs => call (.builtin id) vs) Q)) (hp : ∀ env pos, (backTo pos (starEach args env)).any (·.1) = false := by intro _ _; rfl) : PE G k sc ρ (.Call (.Name f fp) args [] pos) Q := fun A env I s oa eo N => by
  have hn : PE G k sc ρ (.Name f fp) fun d => d = .val (.builtin id) := pe_glob hx hk (d := .val (.builtin id)) (fun I => rep_val.mpr rfl) rfl
  refine Call_ (then_PE hn oa eo N fun v s₁ I₁ d g₁ N₁ r₁ q₁ => ?_)
  subst q₁
  rw [rep_val] at r₁
  subst r₁
  refine callWith_builtin (hp env pos) (evalArgs_any (hp env pos) (wpAny_mono (h A env I₁ s₁ pos oa eo N₁) (fun vs s₂ ⟨J, ds, g₂, r₂, q₂⟩ => ?_) fun _ _ x => x))
  have N₂ := N₁.grow g₂
  exact wpAny_mono (q₂ A J s₂ vs oa N₂.base N₂.sub r₂) (fun _ _ x => .of (g₁.trans g₂) x) fun _ _ x => x
/-- a built-in class -/
theorem pe_type {f : Str} {fp pos : Pos} {id : String} {args : List Expr} (hx : (f, .type id) ∈ G.gl) (hk : sc.names.lookup f = some .globalImplicit)
    (h : PL G k sc ρ args (OpLK G k (fun vs => call (.type id) vs) Q)) (hp : ∀ env pos, (backTo pos (starEach args env)).any (·.1) = false := by intro _ _; rfl) : PE G k sc ρ (.Call (.Name f fp) args [] pos) Q := fun A env I s oa eo N => by
  have hn : PE G k sc ρ (.Name f fp) fun d => d = .val (.type id) := pe_glob hx hk (d := .val (.type id)) (fun I => rep_val.mpr rfl) rfl
  refine Call_ (then_PE hn oa eo N fun v s₁ I₁ d g₁ N₁ r₁ q₁ => ?_)
  subst q₁
  rw [rep_val] at r₁
  subst r₁
  refine PySem.callWith_type (hp env pos) (evalArgs_any (hp env pos) (wpAny_mono (h A env I₁ s₁ pos oa eo N₁) (fun vs s₂ ⟨J, ds, g₂, r₂, q₂⟩ => ?_) fun _ _ x => x))
  have N₂ := N₁.grow g₂
  exact wpAny_mono (q₂ A J s₂ vs oa N₂.base N₂.sub r₂) (fun _ _ x => .of (g₁.trans g₂) x) fun _ _ x => x

/-- how a value answers to a method's name -/
noncomputable def Meth (G : Gd) (d : D) (name : Str) (id : String) : Prop := ∀ (A : Around) (I : Store) (s : Shared) (v : Value) (pl : Sem Bool) (Q : Value × List Value → Shared → Prop) (E : Value → Shared → Prop),
  G.B s.heap → Sub I s.heap.get? → Rep I d v → Q (.builtin id, [v]) s → wpAny G.M A (getMethod v name pl) Q E s
theorem notref {x : Str} {t : Tok} {P : Addr → Prop} : ∀ a, Value.str x t = .ref a → P a := fun a e => Value.noConfusion e
theorem meth_str {x : Str} {name : Str} {id : String} (slot : Slot "str" name id) (hty : typeOf (.builtin id) = pure (.type "method_descriptor")) : Meth G (.str x) name id := fun A I s v pl Q E hB hI r h => by
  obtain ⟨t, rfl⟩ := rep_str.mp r
  exact @getMethod_builtin G.M A E s (.str x t) "str" name id pl Q (typeIs_str s x t) PySem.F.plainAttrs_str slot hty notref h

@[reducible] def MethL (G : Gd) (k : Nat) (id : String) (d : D) (Q : D → Prop) : List D → Prop := fun ds => OpL G k (fun vs => call (.builtin id) vs) (d :: ds) Q
@[reducible] def MethK (G : Gd) (k : Nat) (sc : Scope) (ρ : List (Str × D)) (name : Str) (args : List Expr) (Q : D → Prop) : D → Prop := fun d => ∃ id, Meth G d name id ∧ PL G k sc ρ args (MethL G k id d Q)
theorem pe_method {o : Expr} {name : Str} {ap pos : Pos} {args : List Expr} (h : PE G k sc ρ o (MethK G k sc ρ name args Q))
    (hb : ∀ env, attributeBase o name env (eval o env) = eval o env := by intro _; rfl) (he : (ap.endLine == pos.line) = true := by rfl) (hf : ∀ env, methodCallForm (args.length + 0) (backTo pos (starEach args env)) [] = true := by intro _; rfl)
    (hp : ∀ env pos, (backTo pos (starEach args env)).any (·.1) = false := by intro _ _; rfl) : PE G k sc ρ (.Call (.Attribute o name ap) args [] pos) Q := fun A env I s oa eo N => by
  refine method_wp (hb env) he (hf env) (then_PE h oa eo N fun v s₁ I₁ d g₁ N₁ r₁ ⟨id, hm, q₁⟩ => ?_)
  refine hm A I₁ s₁ v _ _ _ N₁.base N₁.sub r₁ ?_
  refine callWith_builtin (hp env pos) (evalArgs_any (hp env pos) (wpAny_mono (q₁ A env I₁ s₁ pos oa eo N₁) (fun vs s₂ ⟨J, ds, g₂, r₂, q₂⟩ => ?_) fun _ _ x => x))
  have N₂ := N₁.grow g₂
  exact wpAny_mono (q₂ A J s₂ (v :: vs) oa N₂.base N₂.sub (repL_cons.mpr ⟨v, vs, rfl, r₁.mono g₂.sub, r₂⟩)) (fun _ _ x => .of (g₁.trans g₂) x) fun _ _ x => x

/-! ### ints -/
theorem op_int2 {t : Value → Value → Sem Value} {a b r : Int} (h : Q (.int r)) (H : ∀ (A : Around) (s : Shared) (u v : Tok) (K : Value → Shared → Prop), OkA k A → K (.int r s.toks) { s with toks := s.toks + 1 } → wpAny G.M A (t (.int a u) (.int b v)) K Bot s) :
    Op2 G k t (.int a) (.int b) Q := fun A I s v u oa hB hI r₁ r₂ => by
  obtain ⟨t₁, rfl⟩ := rep_int.mp r₁
  obtain ⟨t₂, rfl⟩ := rep_int.mp r₂
  exact H A s t₁ t₂ _ oa (Res.one (Grow.tok hI _) (rep_int.mpr ⟨_, rfl⟩) h)
theorem op_intB {t : Value → Value → Sem Value} {a b : Int} {r : Bool} (h : Q (.bool r)) (H : ∀ (A : Around) (s : Shared) (u v : Tok) (K : Value → Shared → Prop), OkA k A → K (.bool r) s → wpAny G.M A (t (.int a u) (.int b v)) K Bot s) :
    Op2 G k t (.int a) (.int b) Q := fun A I s v u oa hB hI r₁ r₂ => by
  obtain ⟨t₁, rfl⟩ := rep_int.mp r₁
  obtain ⟨t₂, rfl⟩ := rep_int.mp r₂
  exact H A s t₁ t₂ _ oa (Res.one (Grow.refl hI) (rep_bool.mpr rfl) h)
variable {a b : Int}
theorem op_add (h : Q (.int (a + b))) : Op2 G k (binaryOp .Add) (.int a) (.int b) Q := op_int2 h fun A s u v K oa hK => P.add_int hK
theorem op_sub (h : Q (.int (a - b))) : Op2 G k (binaryOp .Sub) (.int a) (.int b) Q := op_int2 h fun A s u v K oa hK => P.sub_int hK
theorem op_mul (hs : IntMulOk a b) (h : Q (.int (a * b))) : Op2 G k (binaryOp .Mult) (.int a) (.int b) Q := op_int2 h fun A s u v K oa hK => P.mul_int hK hs
theorem op_floordiv (hb : b ≠ 0 ∧ b.natAbs < 1073741824) (h : Q (.int (a.fdiv b))) : Op2 G k (binaryOp .FloorDiv) (.int a) (.int b) Q := op_int2 h fun A s u v K oa hK => floordiv_int hb.1 hK (.inl (PyProof.noPylong_small hb.2))
theorem op_mod (hb : b ≠ 0) (h : Q (.int (a.fmod b))) : Op2 G k (binaryOp .Mod) (.int a) (.int b) Q := op_int2 h fun A s u v K oa hK => mod_int' hb hK
theorem op_pow (hn : 0 ≤ b) (hn2 : b ≤ 1000000) (ha : a.natAbs < 2 ^ 64) (h : Q (.int (a ^ b.toNat))) : Op2 G k (binaryOp .Pow) (.int a) (.int b) Q := op_int2 h fun A s u v K oa hK => pow_int_small hn hn2 ha hK
theorem op_lshift (hn : 0 ≤ b) (hn2 : b ≤ 1000000) (ha : a.natAbs < 2 ^ 64) (h : Q (.int (a * 2 ^ b.toNat))) : Op2 G k (binaryOp .LShift) (.int a) (.int b) Q := op_int2 h fun A s u v K oa hK => lshift_int_small hn hn2 ha hK
theorem op_and (h : Q (.int (Builtin.bitAnd a b))) : Op2 G k (binaryOp .BitAnd) (.int a) (.int b) Q := op_int2 h fun A s u v K oa hK => and_int hK
theorem op_xor (h : Q (.int (Builtin.bitXor a b))) : Op2 G k (binaryOp .BitXor) (.int a) (.int b) Q := op_int2 h fun A s u v K oa hK => xor_int hK
theorem op_iadd (h : Q (.int (a + b))) : Op2 G k (inplaceOp .Add) (.int a) (.int b) Q := op_int2 h fun A s u v K oa hK => P.iadd_int hK
theorem op_isub (h : Q (.int (a - b))) : Op2 G k (inplaceOp .Sub) (.int a) (.int b) Q := op_int2 h fun A s u v K oa hK => P.isub_int hK
theorem op_ixor (h : Q (.int (Builtin.bitXor a b))) : Op2 G k (inplaceOp .BitXor) (.int a) (.int b) Q := op_int2 h fun A s u v K oa hK => ixor_int hK
theorem op_eq (h : Q (.bool (a == b))) : Op2 G k (compareOp .Eq) (.int a) (.int b) Q := op_intB h fun A s u v K oa hK => P.eq_int hK
theorem op_ne (h : Q (.bool (a != b))) : Op2 G k (compareOp .NotEq) (.int a) (.int b) Q := op_intB h fun A s u v K oa hK => P.ne_int hK
theorem op_lt (h : Q (.bool (decide (a < b)))) : Op2 G k (compareOp .Lt) (.int a) (.int b) Q := op_intB h fun A s u v K oa hK => P.lt_int hK
theorem op_le (h : Q (.bool (decide (a ≤ b)))) : Op2 G k (compareOp .LtE) (.int a) (.int b) Q := op_intB h fun A s u v K oa hK => P.le_int hK
theorem op_gt (h : Q (.bool (decide (a > b)))) : Op2 G k (compareOp .Gt) (.int a) (.int b) Q := op_intB h fun A s u v K oa hK => P.gt_int hK
theorem op_ge (h : Q (.bool (decide (a ≥ b)))) : Op2 G k (compareOp .GtE) (.int a) (.int b) Q := op_intB h fun A s u v K oa hK => P.ge_int hK
theorem ob_int {Q : Bool → Prop} (h : Q (a != 0)) : OpB G k (.int a) Q := fun A I s v oa hB hI r => by
  obtain ⟨t, rfl⟩ := rep_int.mp r
  exact P.truthy_int ⟨I, Grow.refl hI, h⟩
theorem ob_bool {c : Bool} {Q : Bool → Prop} (h : Q c) : OpB G k (.bool c) Q := fun A I s v oa hB hI r => by
  rw [rep_bool] at r
  subst r
  exact wpAny_truthy_bool ⟨I, Grow.refl hI, h⟩
theorem ob_none {Q : Bool → Prop} (h : Q false) : OpB G k .none Q := fun A I s v oa hB hI r => by
  rw [rep_none] at r
  subst r
  exact truthy_none ⟨I, Grow.refl hI, h⟩

/-! ### texts -/
variable {x y : Str}
theorem op_str {t : Value → Value → Sem Value} {d₁ d₂ : D} {r : Str} (h : Q (.str r)) (H : ∀ (A : Around) (I : Store) (s : Shared) (u v : Value) (K : Value → Shared → Prop), OkA k A → Rep I d₁ u → Rep I d₂ v → (∀ t' k, K (.str r t') { s with toks := k }) → wpAny G.M A (t u v) K Bot s) :
    Op2 G k t d₁ d₂ Q := fun A I s v u oa hB hI r₁ r₂ => H A I s v u _ oa r₁ r₂ fun t' k => Res.one (Grow.tok hI _) (rep_str.mpr ⟨_, rfl⟩) h
theorem op_add_str (hs : x.length + y.length ≤ 100000) (h : Q (.str (x ++ y))) : Op2 G k (binaryOp .Add) (.str x) (.str y) Q := op_str h fun A I s u v K oa r₁ r₂ hK => by
  obtain ⟨t₁, rfl⟩ := rep_str.mp r₁
  obtain ⟨t₂, rfl⟩ := rep_str.mp r₂
  exact SB.add hK (Nat.le_trans hs (by decide))
theorem op_eq_str (h : Q (.bool (x.cps.toList == y.cps.toList))) : Op2 G k (compareOp .Eq) (.str x) (.str y) Q := fun A I s v u oa hB hI r₁ r₂ => by
  obtain ⟨t₁, rfl⟩ := rep_str.mp r₁
  obtain ⟨t₂, rfl⟩ := rep_str.mp r₂
  exact P.eq_str (Res.one (Grow.refl hI) (rep_bool.mpr rfl) h)
theorem op_ne_str (h : Q (.bool (x.cps.toList != y.cps.toList))) : Op2 G k (compareOp .NotEq) (.str x) (.str y) Q := fun A I s v u oa hB hI r₁ r₂ => by
  obtain ⟨t₁, rfl⟩ := rep_str.mp r₁
  obtain ⟨t₂, rfl⟩ := rep_str.mp r₂
  exact P.ne_str (Res.one (Grow.refl hI) (rep_bool.mpr rfl) h)
end

-- C10
set_option maxRecDepth 512
section
variable {G : Gd} {k : Nat} {sc : Scope} {ρ : List (Str × D)} {Q : D → Prop}

theorem op_item_list {value slice : Expr} {l : List D} {i : Int} {d : D} (h0 : 0 ≤ i ∧ i < 2 ^ 63) (hd : l[i.toNat]? = some d) (h : Q d) (hs : ∀ o i, subscripted slice false o i = operate [o, i] (getItem o i) := by intro _ _; rfl) :
    Op2 G k (subscriptTail value slice) (.list l) (.int i) Q := fun A I s v u oa hB hI r₁ r₂ => by
  obtain ⟨a, n, vs, rfl, hi, rl⟩ := rep_list.mp r₁
  obtain ⟨t, rfl⟩ := rep_int.mp r₂
  obtain ⟨x, hx, rx⟩ := rl.get hd
  have hl : s.heap.IsList a vs := ⟨_, hI _ _ hi, rfl, n, rfl⟩
  exact tail_any hl.typeIs slot_list_getitem.lookup (wpAny_getItem_list hl h0.1 h0.2 (by simpa using hx) (Res.one (Grow.refl hI) rx h)) (hs _ _)
theorem op_item_str {value slice : Expr} {x : Str} {i : Int} (h0 : 0 ≤ i ∧ i.toNat < x.cps.size ∧ i < 2 ^ 63) (h : Q (.str ⟨#[x.cps.getD i.toNat 0]⟩)) (hs : ∀ o i, subscripted slice false o i = operate [o, i] (getItem o i) := by intro _ _; rfl) :
    Op2 G k (subscriptTail value slice) (.str x) (.int i) Q := fun A I s v u oa hB hI r₁ r₂ => by
  obtain ⟨t₁, rfl⟩ := rep_str.mp r₁
  obtain ⟨t, rfl⟩ := rep_int.mp r₂
  have hc : Txt.charAt x i = some (x.cps.getD i.toNat 0) := by
    have hl : x.length = x.cps.size := rfl
    unfold Txt.charAt seqIndex?
    rw [hl]
    dsimp only
    rw [if_neg (show ¬ i < 0 by omega), if_pos (by simp; omega)]
    simp [h0.2.1]
  refine tail_any (typeIs_str _ _ _) PySem.F.slot_str_getitem.lookup (SB.getItem (by unfold fitsSsize; simp; omega) (by rw [hc]; rfl) ?_) (hs _ _)
  unfold Txt.item
  rw [hc]
  exact Res.one (Grow.tok hI _) (rep_str.mpr ⟨_, rfl⟩) h

/-- a bound of a slice -/
inductive IsOpt : D → Option Int → Prop
  | none : IsOpt .none none
  | int (i) : IsOpt (.int i) (some i)
noncomputable def PO (G : Gd) (k : Nat) (sc : Scope) (ρ : List (Str × D)) : Option Expr → (Option Int → Prop) → Prop
  | none, Q => Q none
  | some e, Q => PE G k sc ρ e fun d => ∃ o, IsOpt d o ∧ Q o
theorem po_none {Q : Option Int → Prop} (h : Q none) : PO G k sc ρ none Q := h
@[reducible] def OptK (Q : Option Int → Prop) : D → Prop := fun d => ∃ o, IsOpt d o ∧ Q o
theorem po_some {Q : Option Int → Prop} {e : Expr} (h : PE G k sc ρ e (OptK Q)) : PO G k sc ρ (some e) Q := h
theorem po_wp {Q : Option Int → Prop} {e : Option Expr} {A : Around} {env : Env} {I : Store} {s : Shared} {R : Value → Shared → Prop} (h : PO G k sc ρ e Q) (oa : OkA k A) (eo : EnvOk sc env) (N : NIn G env ρ I s)
    (f : ∀ v s₁ I₁ o, Grow s I s₁ I₁ → NIn G env ρ I₁ s₁ → IsPart v o → Q o → R v s₁) : wpAny G.M A (evalPart e env) R Bot s := by
  cases e with
  | none => exact evalPart_none_step (f _ s I none (Grow.refl N.sub) N .none h)
  | some e =>
    refine evalPart_some_step (then_PE h oa eo N fun v s₁ I₁ d g N₁ r ⟨o, ho, q⟩ => ?_)
    cases ho with
    | none => rw [rep_none] at r; subst r; exact f _ _ _ _ g N₁ .none q
    | int i => obtain ⟨t, rfl⟩ := rep_int.mp r; exact f _ _ _ _ g N₁ (.int i t) q

@[reducible] def SlU (Q : D → Prop) (d : D) (l : Option Int) : Option Int → Prop := fun u => (∃ x, d = .str x ∧ x.length ≤ 100000 ∧ Q (.str (Txt.slice x l u))) ∨
      (∃ ds, d = .list ds ∧ ds.length ≤ 100000 ∧ Q (.list (((sliceRange (sliceBounds l u none ds.length).1 (sliceBounds l u none ds.length).2.1 (sliceBounds l u none ds.length).2.2).filterMap (ds[·]?)))))
@[reducible] def SlL (G : Gd) (k : Nat) (sc : Scope) (ρ : List (Str × D)) (hi : Option Expr) (Q : D → Prop) (d : D) : Option Int → Prop := fun l => PO G k sc ρ hi (SlU Q d l)
@[reducible] def SlV (G : Gd) (k : Nat) (sc : Scope) (ρ : List (Str × D)) (lo hi : Option Expr) (Q : D → Prop) : D → Prop := fun d => PO G k sc ρ lo (SlL G k sc ρ hi Q d)
/-- a part of a text, of a list -/
theorem pe_slice {value : Expr} {lo hi : Option Expr} {p pos : Pos} (h : PE G k sc ρ value (SlV G k sc ρ lo hi Q)) :
    PE G k sc ρ (.Subscript value (.Slice lo hi none p) pos) Q := fun A env I s oa eo N => by
  refine Subscript_ (then_PE h oa eo N fun o s₁ I₁ d g₁ N₁ r₁ q₁ => wpAny_Slice (po_wp q₁ oa eo N₁ fun vl s₂ I₂ l g₂ N₂ pl q₂ => po_wp q₂ oa eo N₂ fun vu s₃ I₃ u g₃ N₃ pu q₃ => ?_))
  rw [evalPart_none]
  refine wpAny_pure ?_
  have r₃ := (r₁.mono g₂.sub).mono g₃.sub
  have gg := g₁.trans (g₂.trans g₃)
  have g₄ : Grow s₃ I₃ { s₃ with heap := s₃.heap.push { cls := .type "slice", data := .fields #[vl, vu, .none] } } I₃ := Grow.heap (t := s₃.toks) g₃.sub' (fun b o e => Heap.get?_push_of_some _ e)
  rcases q₃ with ⟨x, rfl, hx, q⟩ | ⟨ds, rfl, hds, q⟩
  · obtain ⟨t, rfl⟩ := rep_str.mp r₃
    refine tail_any (ops := [.ref s₃.heap.objs.size, .str x t]) (typeIs_str _ _ _) PySem.F.slot_str_getitem.lookup ?_ rfl
    have hsz : x.length ≤ sizeLine := Nat.le_trans hx (by decide)
    have fin : ∀ (t' k : Nat), Res s I Q (.str (Txt.slice x l u) t') { s₃ with heap := s₃.heap.push { cls := .type "slice", data := .fields #[vl, vu, .none] }, toks := k } := fun t' k =>
      Res.one (gg.trans (Grow.heap (t := k) g₃.sub' (fun b o e => Heap.get?_push_of_some _ e))) (rep_str.mpr ⟨_, rfl⟩) q
    cases pl with
    | none =>
      cases pu with
      | none => exact wpAny_getItem_str_slice (l := none) (u := none) (st := none) ⟨_, Heap.get?_push_size _ rfl, rfl, rfl⟩ rfl (post_val_or_str ⟨Nat.le_trans (Txt.slice_le x _ _) hsz, fun t' k => fin t' k⟩)
      | int j tj => exact wpAny_getItem_str_slice (l := none) (u := some (j, tj)) (st := none) ⟨_, Heap.get?_push_size _ rfl, rfl, rfl⟩ rfl (post_val_or_str ⟨Nat.le_trans (Txt.slice_le x _ _) hsz, fun t' k => fin t' k⟩)
    | int i ti =>
      cases pu with
      | none => exact wpAny_getItem_str_slice (l := some (i, ti)) (u := none) (st := none) ⟨_, Heap.get?_push_size _ rfl, rfl, rfl⟩ rfl (post_val_or_str ⟨Nat.le_trans (Txt.slice_le x _ _) hsz, fun t' k => fin t' k⟩)
      | int j tj => exact wpAny_getItem_str_slice (l := some (i, ti)) (u := some (j, tj)) (st := none) ⟨_, Heap.get?_push_size _ rfl, rfl, rfl⟩ rfl (post_val_or_str ⟨Nat.le_trans (Txt.slice_le x _ _) hsz, fun t' k => fin t' k⟩)
  · obtain ⟨a, n, vs, rfl, hi, rl⟩ := rep_list.mp r₃
    have ho := g₄.sub' _ _ hi
    have hl : ({ s₃ with heap := s₃.heap.push { cls := .type "slice", data := .fields #[vl, vu, .none] } } : Shared).heap.IsList a vs := ⟨_, ho, rfl, n, rfl⟩
    refine tail_any (ops := [.ref s₃.heap.objs.size, .ref a]) hl.typeIs slot_list_getitem.lookup (wpAny_getItem_list_slice hl (Heap.IsSliceOf.new ..) pl pu .none (by simp) ?_ ?_) rfl
    · have g₅ := Grow.put (t := s₃.toks) g₄.sub' (fun b o e => Heap.get?_push_of_some (lobj (slicePick vs l u none) 0) e) (size_none _) (Heap.get?_push_size _ rfl)
      refine Res.one (gg.trans (g₄.trans g₅)) (rep_list.mpr ⟨_, _, _, rfl, Store.put_self _ _ _, ?_⟩) q
      have hlen : vs.size = ds.length := by rw [← rl.length]; simp
      have hp : (slicePick vs l u none).toList = ((sliceRange (sliceBounds l u none ds.length).1 (sliceBounds l u none ds.length).2.1 (sliceBounds l u none ds.length).2.2).filterMap (vs[·]?)) := by unfold slicePick; rw [hlen]
      rw [hp]
      have key : ∀ is : List Nat, RepL I₃ (is.filterMap (ds[·]?)) (is.filterMap (vs[·]?)) := fun is => by
        induction is with
        | nil => exact repL_nil.mpr rfl
        | cons i is ih =>
          rw [List.filterMap_cons, List.filterMap_cons]
          cases e : ds[i]? with
          | none =>
            have : vs[i]? = none := by
              rw [Array.getElem?_eq_none_iff]; rw [List.getElem?_eq_none_iff] at e; omega
            rw [this]; exact ih
          | some d =>
            obtain ⟨x, hx, rx⟩ := rl.get e
            have : vs[i]? = some x := by simpa using hx
            rw [this]
            exact repL_cons.mpr ⟨_, _, rfl, rx, ih⟩
      exact (key _).mono g₅.sub
    · have hlen : vs.size = ds.length := by rw [← rl.length]; simp
      rw [hlen]; exact Nat.le_trans hds (by decide)
end

-- C11
set_option maxRecDepth 512
theorem repL_ints {I : Store} : ∀ {ns : List Int} {vs : List Value}, RepL I (ns.map D.int) vs → IntsAre vs ns
  | [], vs, r => by rw [List.map_nil, repL_nil] at r; subst r; exact .nil
  | n :: ns, vs, r => by
    obtain ⟨v, q, rfl, a, b⟩ := repL_cons.mp r
    obtain ⟨t, rfl⟩ := rep_int.mp a
    exact .cons _ _ (repL_ints b)
theorem ints_repL {I : Store} : ∀ {ns : List Int} {vs : List Value}, IntsAre vs ns → RepL I (ns.map D.int) vs
  | _, _, .nil => repL_nil.mpr rfl
  | _, _, .cons _ _ h => repL_cons.mpr ⟨_, _, rfl, rep_int.mpr ⟨_, rfl⟩, ints_repL h⟩
theorem repL_strs {I : Store} : ∀ {ss : List Str} {vs : List Value}, RepL I (ss.map D.str) vs → ∃ l : List (Str × Tok), vs = strValues l ∧ l.map (·.1) = ss
  | [], vs, r => by rw [List.map_nil, repL_nil] at r; subst r; exact ⟨[], rfl, rfl⟩
  | n :: ns, vs, r => by
    obtain ⟨v, q, rfl, a, b⟩ := repL_cons.mp r
    obtain ⟨t, rfl⟩ := rep_str.mp a
    obtain ⟨l, rfl, h⟩ := repL_strs b
    exact ⟨(n, t) :: l, rfl, by simp [h]⟩
theorem strs_repL {I : Store} : ∀ (l : List (Str × Tok)), RepL I ((l.map (·.1)).map D.str) (strValues l)
  | [] => repL_nil.mpr rfl
  | p :: l => repL_cons.mpr ⟨_, _, rfl, rep_str.mpr ⟨_, rfl⟩, strs_repL l⟩

noncomputable def isI (i : Int) (y : Value) : Bool := match y with | .int j _ => j == i | _ => false
theorem any_isI {i : Int} {vs : List Value} {ns : List Int} (h : IntsAre vs ns) : vs.any (isI i) = ns.any (· == i) := by
  induction h with
  | nil => rfl
  | cons n t _ ih => rw [List.any_cons, List.any_cons, ih]; rfl
theorem eq_isI {A : Around} {s : Shared} {i : Int} {t : Tok} {y : Value} {vs : List Value} {ns : List Int} (h : IntsAre vs ns) (hy : y ∈ vs) : SeqAt.EqAt A s y (.int i t) (isI i y) := by
  induction h with
  | nil => simp at hy
  | cons n u _ ih =>
    rcases List.mem_cons.mp hy with rfl | hy
    · exact SeqAt.EqAt.int_int n u i t
    · exact ih hy

section
variable {G : Gd} {k : Nat} {sc : Scope} {ρ : List (Str × D)} {Q : D → Prop}

theorem OkA.cl {A : Around} (h : OkA k A) : A.units < cLine := by have := h.units; have : cLine = 9900 := rfl; omega

theorem op_add_list {l₁ l₂ : List D} (hs : l₁.length + l₂.length ≤ 100000) (h : Q (.list (l₁ ++ l₂))) : Op2 G k (binaryOp .Add) (.list l₁) (.list l₂) Q := fun A I s v u oa hB hI r₁ r₂ => by
  obtain ⟨a, n, vs, rfl, hi, rl⟩ := rep_list.mp r₁
  obtain ⟨a', n', vs', rfl, hi', rl'⟩ := rep_list.mp r₂
  have e1 : vs.size = l₁.length := by rw [← rl.length]; simp
  have e2 : vs'.size = l₂.length := by rw [← rl'.length]; simp
  refine P.add_list (hI _ _ hi) (hI _ _ hi') ?_ (by rw [e1, e2]; exact Nat.le_trans hs (by decide))
  have g := Grow.put (t := s.toks) hI (fun b o e => Heap.get?_push_of_some (lobj (vs ++ vs') 0) e) (size_none _) (Heap.get?_push_size _ rfl)
  refine Res.one g (rep_list.mpr ⟨_, _, _, rfl, Store.put_self _ _ _, ?_⟩) h
  rw [Array.toList_append]
  exact (rl.mono g.sub).append (rl'.mono g.sub)

theorem op_mul_list {l : List D} {x : Int} (hx : 0 ≤ x) (hs : l.length * x.toNat ≤ 256) (hx2 : x ≤ 256) (h : Q (.list (List.replicate x.toNat l).flatten)) : Op2 G k (binaryOp .Mult) (.list l) (.int x) Q := fun A I s v u oa hB hI r₁ r₂ => by
  obtain ⟨a, n, vs, rfl, hi, rl⟩ := rep_list.mp r₁
  obtain ⟨t, rfl⟩ := rep_int.mp r₂
  have ho := hI _ _ hi
  have e1 : vs.size = l.length := by rw [← rl.length]; simp
  have hsz' : vs.size * x.toNat ≤ 256 := by rw [e1]; exact hs
  refine wpAny_binaryOp_repeat_ref (T := "list") (U := "int") (by decide) ⟨_, ho, rfl⟩ (fun s' => typeIs_int s' x t) noFill_list_mul PySem.F.fills_int_mul PySem.F.slot_int_rmul repeat_list PySem.F.slot_int_index.lookup
    (call_meets PySem.F.slot_int_rmul (typeIs_int s x t) PySem.F.entry_int_rmul (PySem.F.args_int_rmul_2 _ _) (lm_int_rmul_list_any x t a vs n none #[])
      ⟨ho, rfl, ⟨_, ho, rfl⟩, call_meets PySem.F.slot_list_mul ⟨_, ho, rfl⟩ PySem.F.entry_list_mul (PySem.F.args_list_mul_2 _ _)
        (lm_list_mul_any a vs n none #[] x t (by simp [Builtin.List.listFitsIndex]; omega) (by omega) (by simp [Builtin.List.listTooLong, sizeLine]; omega))
        ⟨ho, ?_⟩⟩)
  rw [listMul_foldl_if]
  have g := Grow.put (t := s.toks) hI (fun b o e => Heap.get?_push_of_some (lobj (List.replicate x.toNat vs.toList).flatten.toArray 0) e) (size_none _) (Heap.get?_push_size _ rfl)
  refine Res.one g (rep_list.mpr ⟨_, _, _, rfl, Store.put_self _ _ _, ?_⟩) h
  have key : ∀ m : Nat, RepL I (List.replicate m l).flatten (List.replicate m vs.toList).flatten := fun m => by
    induction m with
    | zero => simp [repL_nil]
    | succ m ih => rw [List.replicate_succ, List.replicate_succ, List.flatten_cons, List.flatten_cons]; exact rl.append ih
  simpa using (key x.toNat).mono g.sub

theorem op_in_ints {ns : List Int} {i : Int} {d : D} (hd : IsSeq d (ns.map D.int)) (h : Q (.bool (ns.any (· == i)))) : Op2 G k (compareOp .In) (.int i) d Q := fun A I s v u oa hB hI r₁ r₂ => by
  obtain ⟨t, rfl⟩ := rep_int.mp r₁
  cases hd with
  | list =>
    obtain ⟨a, n, vs, rfl, hi, rl⟩ := rep_list.mp r₂
    have ia := repL_ints rl
    refine SeqAt.in_listAt (isI i) ⟨_, hI _ _ hi, rfl, n, rfl⟩ (fun y hy => eq_isI ia (by simpa using hy)) (Res.one (Grow.refl hI) (rep_bool.mpr rfl) ?_)
    rw [← Array.any_toList, any_isI ia]; exact h
  | tup =>
    obtain ⟨a, n, vs, rfl, hi, rl⟩ := rep_tup.mp r₂
    have ia := repL_ints rl
    refine SeqAt.in_tupleAt (isI i) ⟨_, hI _ _ hi, rfl, n, rfl⟩ (fun y hy => eq_isI ia (by simpa using hy)) (Res.one (Grow.refl hI) (rep_bool.mpr rfl) ?_)
    rw [← Array.any_toList, any_isI ia]; exact h
theorem op_notin_ints {ns : List Int} {i : Int} (h : Q (.bool (!ns.any (· == i)))) : Op2 G k (compareOp .NotIn) (.int i) (.list (ns.map D.int)) Q := fun A I s v u oa hB hI r₁ r₂ => by
  obtain ⟨t, rfl⟩ := rep_int.mp r₁
  obtain ⟨a, n, vs, rfl, hi, rl⟩ := rep_list.mp r₂
  have ia := repL_ints rl
  refine SeqAt.notIn_listAt (isI i) ⟨_, hI _ _ hi, rfl, n, rfl⟩ (fun y hy => eq_isI ia (by simpa using hy)) (Res.one (Grow.refl hI) (rep_bool.mpr rfl) ?_)
  rw [← Array.any_toList, any_isI ia]; exact h
theorem op_in_strs {ss : List Str} {x : Str} (h : Q (.bool (ss.any (· == x)))) : Op2 G k (compareOp .In) (.str x) (.list (ss.map D.str)) Q := fun A I s v u oa hB hI r₁ r₂ => by
  obtain ⟨t, rfl⟩ := rep_str.mp r₁
  obtain ⟨a, n, vs, rfl, hi, rl⟩ := rep_list.mp r₂
  obtain ⟨l, hl, hm⟩ := repL_strs rl
  have hy : ∀ y ∈ vs, SeqAt.EqAt A.in1 s y (.str x t) (match y with | .str j _ => j == x | _ => false) := fun y hy => by
    have : ∃ j tj, y = .str j tj := by
      have hy' : y ∈ vs.toList := by simpa using hy
      rw [hl] at hy'
      obtain ⟨p, _, rfl⟩ := List.mem_map.mp hy'
      exact ⟨_, _, rfl⟩
    obtain ⟨j, tj, rfl⟩ := this
    exact SeqAt.EqAt.str_str j tj x t
  refine SeqAt.in_listAt _ ⟨_, hI _ _ hi, rfl, n, rfl⟩ hy (Res.one (Grow.refl hI) (rep_bool.mpr rfl) ?_)
  have e : vs.any (fun y => match y with | .str j _ => j == x | _ => false) = ss.any (· == x) := by
    rw [← Array.any_toList, hl, ← hm]
    unfold strValues
    rw [List.any_map, List.any_map]; rfl
  rw [e]; exact h

/-- lists that hold the same texts or ints are equal -/
noncomputable def scalL : List D → Bool
  | [] => true
  | .int _ :: r => scalL r
  | .str _ :: r => scalL r
  | _ :: _ => false
theorem eqAt_same {A : Around} {s : Shared} {I : Store} : ∀ {l : List D} {vs us : List Value}, scalL l = true → RepL I l vs → RepL I l us → ∀ j (h1 : j < vs.length) (h2 : j < us.length), SeqAt.EqAt A s vs[j] us[j] true
  | [], vs, us, _, r, _ => by rw [repL_nil] at r; subst r; intro j h; simp at h
  | d :: l, vs, us, hs, r, q => by
    obtain ⟨v, vs', rfl, a, b⟩ := repL_cons.mp r
    obtain ⟨u, us', rfl, a', b'⟩ := repL_cons.mp q
    intro j h1 h2
    cases j with
    | zero =>
      cases d with
      | int i =>
        obtain ⟨t, rfl⟩ := rep_int.mp a
        obtain ⟨t', rfl⟩ := rep_int.mp a'
        have := SeqAt.EqAt.int_int (A := A) (s := s) i t i t'
        rwa [beq_self_eq_true] at this
      | str i =>
        obtain ⟨t, rfl⟩ := rep_str.mp a
        obtain ⟨t', rfl⟩ := rep_str.mp a'
        have := SeqAt.EqAt.str_str (A := A) (s := s) i t i t'
        rwa [beq_self_eq_true] at this
      | none => simp [scalL] at hs
      | bool b => simp [scalL] at hs
      | val v => simp [scalL] at hs
      | list l => simp [scalL] at hs
      | tup l => simp [scalL] at hs
      | rng a b c => simp [scalL] at hs
    | succ j =>
      have hs' : scalL l = true := by cases d <;> first | exact hs | simp [scalL] at hs
      exact eqAt_same hs' b b' j (by simpa using h1) (by simpa using h2)
theorem op_eq_list {l : List D} (hs : scalL l = true) (h : Q (.bool true)) : Op2 G k (compareOp .Eq) (.list l) (.list l) Q := fun A I s v u oa hB hI r₁ r₂ => by
  obtain ⟨a, n, vs, rfl, hi, rl⟩ := rep_list.mp r₁
  obtain ⟨a', n', us, rfl, hi', rl'⟩ := rep_list.mp r₂
  have e1 : vs.size = l.length := by rw [← rl.length]; simp
  have e2 : us.size = l.length := by rw [← rl'.length]; simp
  refine SeqAt.eq_listAt (e := fun _ => true) ⟨_, hI _ _ hi, rfl, n, rfl⟩ ⟨_, hI _ _ hi', rfl, n', rfl⟩ (e1.trans e2.symm) oa.cl (fun j h1 h2 => ?_) (Res.one (Grow.refl hI) (rep_bool.mpr rfl) ?_)
  · have := eqAt_same (A := A.in1) (s := s) hs rl rl' j (by simpa using h1) (by simpa using h2)
    simpa using this
  · have : ((List.range vs.size).all fun _ => true) = true := by simp
    rw [this]; exact h
theorem op_ne_list {l : List D} (hs : scalL l = true) (h : Q (.bool false)) : Op2 G k (compareOp .NotEq) (.list l) (.list l) Q := fun A I s v u oa hB hI r₁ r₂ => by
  obtain ⟨a, n, vs, rfl, hi, rl⟩ := rep_list.mp r₁
  obtain ⟨a', n', us, rfl, hi', rl'⟩ := rep_list.mp r₂
  have e1 : vs.size = l.length := by rw [← rl.length]; simp
  have e2 : us.size = l.length := by rw [← rl'.length]; simp
  refine SeqAt.RcNeAt.lists (e := fun _ => true) ⟨_, hI _ _ hi, rfl, n, rfl⟩ ⟨_, hI _ _ hi', rfl, n', rfl⟩ (e1.trans e2.symm) oa.cl (fun j h1 h2 => ?_) _ _ _ _ (Res.one (Grow.refl hI) (rep_bool.mpr rfl) ?_)
  · have := eqAt_same (A := A.in1) (s := s) hs rl rl' j (by simpa using h1) (by simpa using h2)
    simpa using this
  · have : (!((List.range vs.size).all fun _ => true)) = false := by simp
    rw [this]; exact h
theorem op_ne_lens {l₁ l₂ : List D} (hs : l₁.length ≠ l₂.length) (h : Q (.bool true)) : Op2 G k (compareOp .NotEq) (.list l₁) (.list l₂) Q := fun A I s v u oa hB hI r₁ r₂ => by
  obtain ⟨a, n, vs, rfl, hi, rl⟩ := rep_list.mp r₁
  obtain ⟨a', n', us, rfl, hi', rl'⟩ := rep_list.mp r₂
  have e1 : vs.size = l₁.length := by rw [← rl.length]; simp
  have e2 : us.size = l₂.length := by rw [← rl'.length]; simp
  exact SeqAt.RcNeAt.lists_lengths ⟨_, hI _ _ hi, rfl, n, rfl⟩ ⟨_, hI _ _ hi', rfl, n', rfl⟩ (by rw [e1, e2]; simpa using hs) oa.cl _ _ _ _ (Res.one (Grow.refl hI) (rep_bool.mpr rfl) h)
end

-- C12
set_option maxRecDepth 512
theorem repL_one {I : Store} {d : D} {vs : List Value} (r : RepL I [d] vs) : ∃ v, vs = [v] ∧ Rep I d v := by
  obtain ⟨v, q, rfl, a, b⟩ := repL_cons.mp r
  rw [repL_nil] at b
  subst b
  exact ⟨v, rfl, a⟩
theorem repL_two {I : Store} {d e : D} {vs : List Value} (r : RepL I [d, e] vs) : ∃ v u, vs = [v, u] ∧ Rep I d v ∧ Rep I e u := by
  obtain ⟨v, q, rfl, a, b⟩ := repL_cons.mp r
  obtain ⟨u, rfl, c⟩ := repL_one b
  exact ⟨v, u, rfl, a, c⟩
theorem repL_three {I : Store} {d e f : D} {vs : List Value} (r : RepL I [d, e, f] vs) : ∃ v u x, vs = [v, u, x] ∧ Rep I d v ∧ Rep I e u ∧ Rep I f x := by
  obtain ⟨v, q, rfl, a, b⟩ := repL_cons.mp r
  obtain ⟨u, x, rfl, c, d⟩ := repL_two b
  exact ⟨v, u, x, rfl, a, c, d⟩

noncomputable def sumZ : List Int → Int := fun l => l.foldl (· + ·) 0
theorem preSum_list (ns : List Int) : ∀ j, j ≤ ns.length → preSum (fun i => ns.getD i 0) j = (ns.take j).foldl (· + ·) 0
  | 0, _ => by simp [preSum]
  | j + 1, h => by
    rw [preSum, preSum_list ns j (by omega), List.take_succ_eq_append_getElem (by omega), List.foldl_append]
    simp [List.getD, List.getElem?_eq_getElem (show j < ns.length by omega)]

section
variable {G : Gd} {k : Nat} {sc : Scope} {ρ : List (Str × D)} {Q : D → Prop}

theorem op_len_list {l : List D} (hl : l.length ≤ 1000000) (h : Q (.int l.length)) : OpL G k (fun vs => call (.builtin "len") vs) [.list l] Q := fun A I s vs oa hB hI rr => by
  obtain ⟨v, rfl, r⟩ := repL_one rr
  obtain ⟨a, n, us, rfl, hi, rl⟩ := rep_list.mp r
  have e1 : us.size = l.length := by rw [← rl.length]; simp
  exact call_len_list ⟨_, hI _ _ hi, rfl, n, rfl⟩ (by rw [e1]; omega) (Res.one (Grow.tok hI _) (rep_int.mpr ⟨_, rfl⟩) (by rw [e1]; exact h))
theorem op_len_str {x : Str} (hl : x.length ≤ 1000000) (h : Q (.int x.length)) : OpL G k (fun vs => call (.builtin "len") vs) [.str x] Q := fun A I s vs oa hB hI rr => by
  obtain ⟨v, rfl, r⟩ := repL_one rr
  obtain ⟨t, rfl⟩ := rep_str.mp r
  exact PySem.P.len_str (by omega) (Res.one (Grow.tok hI _) (rep_int.mpr ⟨_, rfl⟩) h)
theorem op_range1 {n : Int} (h : Q (.rng 0 n 1)) : OpL G k (fun vs => call (.type "range") vs) [.int n] Q := fun A I s vs oa hB hI rr => by
  obtain ⟨v, rfl, r⟩ := repL_one rr
  obtain ⟨t, rfl⟩ := rep_int.mp r
  refine call_range_1 ?_
  have g := Grow.put (t := s.toks + 1 + 1) hI (fun b o e => Heap.get?_push_of_some { cls := .type "range", data := .fields #[.int 0 s.toks, .int n t, .int 1 (s.toks + 1)] } e) (size_none _) (Heap.get?_push_size _ rfl)
  exact Res.one g (rep_rng.mpr ⟨_, _, _, _, rfl, Store.put_self _ _ _⟩) h
theorem op_range2 {a b : Int} (h : Q (.rng a b 1)) : OpL G k (fun vs => call (.type "range") vs) [.int a, .int b] Q := fun A I s vs oa hB hI rr => by
  obtain ⟨v, u, rfl, r, r'⟩ := repL_two rr
  obtain ⟨t, rfl⟩ := rep_int.mp r
  obtain ⟨t', rfl⟩ := rep_int.mp r'
  refine call_range_2 ?_
  have g := Grow.put (t := s.toks + 1) hI (fun b' o e => Heap.get?_push_of_some { cls := .type "range", data := .fields #[.int a t, .int b t', .int 1 s.toks] } e) (size_none _) (Heap.get?_push_size _ rfl)
  exact Res.one g (rep_rng.mpr ⟨_, _, _, _, rfl, Store.put_self _ _ _⟩) h
theorem op_range3 {a b c : Int} (hc : c ≠ 0 ∧ c.natAbs < 1073741824) (h : Q (.rng a b c)) : OpL G k (fun vs => call (.type "range") vs) [.int a, .int b, .int c] Q := fun A I s vs oa hB hI rr => by
  obtain ⟨v, u, x, rfl, r, r', r''⟩ := repL_three rr
  obtain ⟨t, rfl⟩ := rep_int.mp r
  obtain ⟨t', rfl⟩ := rep_int.mp r'
  obtain ⟨t'', rfl⟩ := rep_int.mp r''
  refine call_range_3 hc.1 ?_ (.inl (PyProof.noPylong_small hc.2))
  have g := Grow.put (t := s.toks) hI (fun b' o e => Heap.get?_push_of_some { cls := .type "range", data := .fields #[.int a t, .int b t', .int c t''] } e) (size_none _) (Heap.get?_push_size _ rfl)
  exact Res.one g (rep_rng.mpr ⟨_, _, _, _, rfl, Store.put_self _ _ _⟩) h
theorem op_abs {a : Int} (h : Q (.int (if a < 0 then -a else a))) : OpL G k (fun vs => call (.builtin "abs") vs) [.int a] Q := fun A I s vs oa hB hI rr => by
  obtain ⟨v, rfl, r⟩ := repL_one rr
  obtain ⟨t, rfl⟩ := rep_int.mp r
  exact call_abs_int fun u tk => Res.one (Grow.tok hI _) (rep_int.mpr ⟨_, rfl⟩) h
theorem op_min {a b : Int} (h : Q (.int (if b < a then b else a))) : OpL G k (fun vs => call (.builtin "min") vs) [.int a, .int b] Q := fun A I s vs oa hB hI rr => by
  obtain ⟨v, u, rfl, r, r'⟩ := repL_two rr
  obtain ⟨t, rfl⟩ := rep_int.mp r
  obtain ⟨t', rfl⟩ := rep_int.mp r'
  refine min_two_ints oa.handled fun h' tk hk => ?_
  refine Res.one (Grow.heap (t := tk) hI hk) (d := .int (if b < a then b else a)) ?_ h
  split
  · exact rep_int.mpr ⟨_, rfl⟩
  · exact rep_int.mpr ⟨_, rfl⟩
theorem op_strOf {a : Int} (ha : a.natAbs.log2 < 1920) (h : Q (.str (toString a))) : OpL G k (fun vs => call (.type "str") vs) [.int a] Q := fun A I s vs oa hB hI rr => by
  obtain ⟨v, rfl, r⟩ := repL_one rr
  obtain ⟨t, rfl⟩ := rep_int.mp r
  exact PySem.P.str_of_int ha (Res.one (Grow.tok hI _) (rep_str.mpr ⟨_, rfl⟩) h)
theorem op_hex {a : Int} (hs : (baseText "0x" 16 a).length ≤ sizeLine) (h : Q (.str (baseText "0x" 16 a))) : OpL G k (fun vs => call (.builtin "hex") vs) [.int a] Q := fun A I s vs oa hB hI rr => by
  obtain ⟨v, rfl, r⟩ := repL_one rr
  obtain ⟨t, rfl⟩ := rep_int.mp r
  exact P.hex_of_int (Res.one (Grow.tok hI _) (rep_str.mpr ⟨_, rfl⟩) h) hs
theorem op_isi_bool {a : Int} (h : Q (.bool false)) : OpL G k (fun vs => call (.builtin "isinstance") vs) [.int a, .val (.type "bool")] Q := fun A I s vs oa hB hI rr => by
  obtain ⟨v, u, rfl, r, r'⟩ := repL_two rr
  obtain ⟨t, rfl⟩ := rep_int.mp r
  rw [rep_val] at r'
  subst r'
  exact IsiPair.int_bool (Res.one (Grow.tok hI _) (rep_bool.mpr rfl) h)
theorem op_isi_int {a : Int} (h : Q (.bool true)) : OpL G k (fun vs => call (.builtin "isinstance") vs) [.int a, .val (.type "int")] Q := fun A I s vs oa hB hI rr => by
  obtain ⟨v, u, rfl, r, r'⟩ := repL_two rr
  obtain ⟨t, rfl⟩ := rep_int.mp r
  rw [rep_val] at r'
  subst r'
  exact IsiPair.int_int (Res.one (Grow.refl hI) (rep_bool.mpr rfl) h)
theorem op_lower {x : Str} (hs : x.length ≤ 100000) (h : Q (.str (Txt.lower x))) : OpL G k (fun vs => call (.builtin "str.lower") vs) [.str x] Q := fun A I s vs oa hB hI rr => by
  obtain ⟨v, rfl, r⟩ := repL_one rr
  obtain ⟨t, rfl⟩ := rep_str.mp r
  exact SCL.lower (by omega) fun _ => Res.one (Grow.tok hI _) (rep_str.mpr ⟨_, rfl⟩) h
theorem op_join {x : Str} {ss : List Str} (hs : JoinOk x ss = true) (h : Q (.str (Txt.join x ss))) : OpL G k (fun vs => call (.builtin "str.join") vs) [.str x, .list (ss.map D.str)] Q := fun A I s vs oa hB hI rr => by
  obtain ⟨v, u, rfl, r, r'⟩ := repL_two rr
  obtain ⟨t, rfl⟩ := rep_str.mp r
  obtain ⟨a, n, us, rfl, hi, rl⟩ := rep_list.mp r'
  obtain ⟨l, hl, hm⟩ := repL_strs rl
  have hok : PySem.Builtin.Str.tooLong ((l.map (·.1)).toArray.foldl (· + ·.length + x.length) 0) = false := by
    unfold JoinOk at hs
    rw [Bool.not_eq_true', ← hm] at hs
    exact hs
  have hlist : s.heap.IsList a (strValues l).toArray := ⟨_, hI _ _ hi, rfl, n, by rw [← hl]⟩
  exact call_meets PySem.F.slot_str_join (typeIs_str _ _ _) PySem.F.entry_str_join (PySem.F.args_str_join_2 _ _) (meets_str_join_list x t a l hok)
    ⟨hlist, post_join l ⟨joinFit_length hok, fun t' k' => Res.one (Grow.tok hI _) (rep_str.mpr ⟨t', rfl⟩) (by rw [hm]; exact h)⟩⟩
theorem op_split {x y : Str} (hy : (y.length == 0) = false) (hx : x.length ≤ 100000) (h : Q (.list ((Txt.split x y).map D.str))) : OpL G k (fun vs => call (.builtin "str.split") vs) [.str x, .str y] Q := fun A I s vs oa hB hI rr => by
  obtain ⟨v, u, rfl, r, r'⟩ := repL_two rr
  obtain ⟨t, rfl⟩ := rep_str.mp r
  obtain ⟨t', rfl⟩ := rep_str.mp r'
  have hx' : x.length ≤ sizeLine := Nat.le_trans hx (by decide)
  have fin : ∀ (l : List (Str × Tok)) (tk : Nat), l.map (·.1) = Txt.split x y → Res s I Q (.ref s.heap.objs.size) { s with heap := s.heap.push { cls := .type "list", data := .seq (strValues l).toArray }, toks := tk } := fun l tk hl => by
    have g := Grow.put (t := tk) hI (fun b o e => Heap.get?_push_of_some (lobj (strValues l).toArray 0) e) (size_none _) (Heap.get?_push_size _ rfl)
    refine Res.one g (rep_list.mpr ⟨_, _, _, rfl, Store.put_self _ _ _, ?_⟩) h
    rw [← hl]
    exact strs_repL l
  have hn : (Txt.split x y).length ≤ sizeLine := by
    have := split_le x y
    have h2 : sizeLine = 2 ^ 24 := rfl
    omega
  cases h1 : (decide (x.length < y.length) || decide (PySem.Builtin.Str.strKind x < PySem.Builtin.Str.strKind y))
  · cases hf : (PySem.Builtin.Str.occurrences x y 0 x.length (x.length + 1)).isEmpty
    · have e : Txt.split x y = PySem.Builtin.Str.partsBetween x (PySem.Builtin.Str.occurrences x y 0 x.length (x.length + 1)) y.length := by
        unfold Txt.split; rw [if_neg (by rw [h1]; decide), if_neg (by rw [hf]; decide)]
      refine call_meets PySem.F.slot_str_split (typeIs_str _ _ _) PySem.F.entry_str_split (PySem.F.args_str_split_2 _ _) (meets_str_split_sep x y t t' h1 hy hf hx' (by rw [← e]; exact hn)) ?_
      show wants _ _ _ { s with toks := _, heap := s.heap.push { cls := .type "list", data := .seq (strsFrom s.toks (PySem.Builtin.Str.partsBetween x (PySem.Builtin.Str.occurrences x y 0 x.length (x.length + 1)) y.length)).toArray } }
      rw [strsFrom_eq]
      exact fin _ _ ((numbered_texts _ _).trans e.symm)
    · have e : Txt.split x y = [x] := by
        unfold Txt.split; rw [if_neg (by rw [h1]; decide), if_pos (by rw [hf])]
      exact call_meets PySem.F.slot_str_split (typeIs_str _ _ _) PySem.F.entry_str_split (PySem.F.args_str_split_2 _ _) (meets_str_split_not_found x y t t' h1 hy hf) (fin [(x, t)] s.toks e.symm)
  · have e : Txt.split x y = [x] := by
      unfold Txt.split; rw [if_pos (by rw [h1])]
    exact call_meets PySem.F.slot_str_split (typeIs_str _ _ _) PySem.F.entry_str_split (PySem.F.args_str_split_2 _ _) (meets_str_split_cannot_occur x y t t' h1) (fin [(x, t)] s.toks e.symm)
theorem op_mul_str {x : Str} {n : Int} (hn : n ≤ 1000) (hn0 : -1000 ≤ n) (hx : x.length ≤ 100) (h : Q (.str (Txt.mul x n))) : Op2 G k (binaryOp .Mult) (.str x) (.int n) Q := fun A I s v u oa hB hI r₁ r₂ => by
  obtain ⟨t₁, rfl⟩ := rep_str.mp r₁
  obtain ⟨t₂, rfl⟩ := rep_int.mp r₂
  have h2 : sizeLine = 2 ^ 24 := rfl
  refine SB.mul ⟨?_, fun h1 _ => ?_, fun h1 _ => ?_⟩ fun t' k => Res.one (Grow.tok hI _) (rep_str.mpr ⟨_, rfl⟩) h
  · simp; omega
  · have : (9223372036854775 : Int) ≤ (2 ^ 63 - 1) / n := by
      rw [Int.le_ediv_iff_mul_le (by omega)]
      omega
    omega
  · have : x.length * n.toNat ≤ 100 * 1000 := Nat.mul_le_mul hx (by omega)
    unfold PySem.Builtin.Str.tooLong
    simp
    omega
theorem op_sum {ns : List Int} (h : Q (.int (sumZ ns))) : OpL G k (fun vs => call (.builtin "sum") vs) [.list (ns.map D.int)] Q := fun A I s vs oa hB hI rr => by
  obtain ⟨v, rfl, r⟩ := repL_one rr
  obtain ⟨a, n, us, rfl, hi, rl⟩ := rep_list.mp r
  have ho := hI _ _ hi
  have hl : s.heap.IsList a us := ⟨_, ho, rfl, n, rfl⟩
  have ia := repL_ints rl
  have hne : a ≠ s.heap.objs.size := Nat.ne_of_lt (Heap.lt_size ho)
  refine call_sum_walkG (wpAny_pyIter_list hl ?_)
  have hlen : us.size = ns.length := by have := rl.length; simpa using this
  have W := Walks.list (prog := G.prog) (w := G.w) (A := A.in1) oa.handled s.heap.objs.size a hne us
  refine ⟨_, _, _, _, _, _, fun i => ns.getD i 0, rfl, W, ⟨⟨_, Heap.get?_push_size _ rfl, rfl, rfl⟩, hl.push _⟩, fun b hb => ?_, fun i v hv => ?_, fun h' tk t' hk => ?_⟩
  · simp at hb
    show b < (s.heap.push _).objs.size
    rw [Heap.size_push]
    rcases hb with rfl | rfl
    · exact Nat.lt_succ_self _
    · exact Nat.lt_succ_of_lt (Heap.lt_size ho)
  · obtain ⟨d, e1, e2⟩ := rl.get' (i := i) (v := v) (by simpa using hv)
    rw [List.getElem?_map] at e1
    cases e : ns[i]? with
    | none => rw [e] at e1; cases e1
    | some m =>
      rw [e] at e1
      cases e1
      obtain ⟨t, rfl⟩ := rep_int.mp e2
      exact ⟨t, by simp [List.getD, e]⟩
  · have e : preSum (fun i => ns.getD i 0) us.size = sumZ ns := by
      rw [preSum_list ns us.size (by omega), hlen, List.take_length]; rfl
    rw [e]
    refine Res.one (Grow.heap (t := tk) hI fun b o e => hk b o (fun hm => ?_) (Heap.get?_push_of_some _ e)) (rep_int.mpr ⟨_, rfl⟩) h
    simp at hm
    exact absurd (Heap.lt_size e) (by rw [hm]; exact Nat.lt_irrefl _)
theorem op_sorted {ns : List Int} (hl : ns.length < 64) (h : ∀ ns' : List Int, ns'.Perm ns → ns'.Pairwise (· ≤ ·) → Q (.list (ns'.map D.int))) : OpL G k (fun vs => call (.builtin "sorted") vs) [.list (ns.map D.int)] Q := fun A I s vs oa hB hI rr => by
  obtain ⟨v, rfl, r⟩ := repL_one rr
  obtain ⟨a, n, us, rfl, hi, rl⟩ := rep_list.mp r
  have ho := hI _ _ hi
  have ia := repL_ints rl
  have hlen : us.toList.length = ns.length := by have := rl.length; rwa [List.length_map] at this
  refine sorted_ints (vs := us.toList) ⟨_, ho, rfl, n, by simp⟩ ia (hlen ▸ hl) fun out ns' i' p1 p2 => ?_
  obtain ⟨e, he⟩ := sortedAll_at s.heap us.toList out
  have hnone : s.heap.get? (s.heap.objs.size + 1) = none := by
    cases q : s.heap.get? (s.heap.objs.size + 1) with
    | none => rfl
    | some o => exact absurd (Heap.lt_size q) (Nat.not_lt.mpr (Nat.le_succ _))
  have g := Grow.put (t := s.toks) hI (fun b o e => sortedAll_old (vs := us.toList) (out := out) e) hnone he
  exact Res.one g (rep_list.mpr ⟨_, _, _, rfl, Store.put_self _ _ _, (ints_repL i').mono g.sub⟩) (h ns' p1 p2)
end

-- C13
set_option maxRecDepth 512
section
variable {G : Gd} {k : Nat} {sc : Scope} {σ : Sto} {Q : Out → Prop}

/-- an own list that is changed no more -/
theorem SIn.freeze {h₀ : Heap} {env : Env} {T : List Addr} {I : Store} {s : Shared} (S : SIn G h₀ env T I σ s) {i : Nat} {x : Str} {l : List D} (hi : σ[i]? = some (x, .own l)) :
    ∃ T' I', Tr T I s T' I' s ∧ SIn G h₀ env T' I' (σ.set i (x, .imm (.list l))) s := by
  obtain ⟨m, cm, ns, cl, rp, ap⟩ := S.names
  obtain ⟨b0, b1, b2⟩ := S.base
  have hmem := List.mem_of_getElem? hi
  obtain ⟨a, e, y⟩ := rp x _ hmem
  obtain ⟨n, vs, g1, g4⟩ := y.obj
  have hsub : Sub I (I.put a (lobj vs n)) := fun b o e1 => by
    unfold Store.put
    split
    · rename_i hb; subst hb; rw [S.out _ y.mem] at e1; cases e1
    · exact e1
  refine ⟨T.filter (fun b => decide (b ≠ a)), I.put a (lobj vs n), ⟨⟨s.heap, s.toks, rfl⟩, fun _ _ _ e => e, fun _ e => e, hsub, fun b o e1 => ?_, fun b hb => .inl (List.mem_filter.mp hb).1⟩,
    ⟨b0, b1, fun b hb => b2 b (List.mem_filter.mp hb).1⟩, fun b o e1 => ?_, fun b hb => ?_, S.kind, ?_, ?_, List.mem_filter.mpr ⟨S.loc, decide_eq_true (Ne.symm y.loc)⟩, fun b hb => S.live b (List.mem_filter.mp hb).1,
    fun n' c e => ⟨List.mem_filter.mpr ⟨(S.cells n' c e).1, decide_eq_true (y.cell n' c e)⟩, (S.cells n' c e).2⟩, S.apart, m, cm, ns, cl, fun z c hz => ?_, fun z l₁ w l₂ hz hw hne => ?_⟩
  · unfold Store.put at e1
    split at e1
    · rename_i hb; subst hb; exact .inr (.inl y.mem)
    · exact .inl e1
  · unfold Store.put at e1
    split at e1
    · rename_i hb; subst hb; cases e1; exact g1
    · exact S.sub b o e1
  · have hb' := List.mem_filter.mp hb
    unfold Store.put
    rw [if_neg (of_decide_eq_true hb'.2)]
    exact S.out b hb'.1
  · rw [set_fst hi]; exact S.nodup
  · rw [set_fst hi]; exact S.kinds
  · rcases mem_set_of hi S.nodup hz with ⟨rfl, rfl⟩ | ⟨hz, hne⟩
    · exact ⟨.ref a, e, rep_list.mpr ⟨a, n, vs, rfl, Store.put_self _ _ _, g4.mono hsub⟩⟩
    · have := rp z c hz
      cases c with
      | no => trivial
      | imm d => obtain ⟨v, e, r⟩ := this; exact ⟨v, e, r.mono hsub⟩
      | own l₂ =>
        obtain ⟨b, e', w⟩ := this
        obtain ⟨n', us, w1, w2⟩ := w.obj
        refine ⟨b, e', List.mem_filter.mpr ⟨w.mem, decide_eq_true fun q => ?_⟩, w.loc, w.cell, n', us, w1, w2.mono hsub⟩
        exact ap z _ x _ hz hmem hne (by rw [e', e, q])
  · rcases mem_set_of hi S.nodup hz with ⟨_, e1⟩ | ⟨hz1, _⟩
    · cases e1
    · rcases mem_set_of hi S.nodup hw with ⟨_, e2⟩ | ⟨hw1, _⟩
      · cases e2
      · exact ap z _ w _ hz1 hw1 hne

theorem se_freeze {x : Str} {l : List D} {b : List Stmt} (i : Nat) (hi : σ[i]? = some (x, .own l)) (h : SE G k sc (σ.set i (x, .imm (.list l))) b Q) : SE G k sc σ b Q := fun h₀ A env T I s oa eo S => by
  obtain ⟨T', I', t, S'⟩ := S.freeze hi
  exact wpAny_mono (h h₀ A env T' I' s oa eo S') (fun _ _ x => .of t x) fun _ _ x => x

/-- a new list is stored as the frame's own -/
theorem SIn.ownNew {h₀ : Heap} {env : Env} {T : List Addr} {J : Store} {s₁ s₂ : Shared} {A : Around} {i : Nat} {x : Str} {c0 : Cell} {a : Addr} {ds : List D} {n : Nat} {vs : Array Value} {R : Unit → Shared → Prop} {E : Value → Shared → Prop}
    (S₁ : SIn G h₀ env T J σ s₁) (g₂ : Grow s₁ J s₂ J) (hn : s₁.heap.get? a = none) (ho : s₂.heap.get? a = some (lobj vs n)) (r : RepL J ds vs.toList) (hi : σ[i]? = some (x, c0))
    (h : ∀ s' T', Tr T J s₁ T' J s' → SIn G h₀ env T' J (σ.set i (x, .own ds)) s' → R () s') : wpAny G.M A (storeName env x (.ref a)) R E s₂ := by
  have S₂ := S₁.grow g₂
  have nT : a ∉ T := fun hb => S₁.live _ hb hn
  have nJ : J a = none := by
    cases e : J a with
    | none => rfl
    | some o => have := S₁.sub _ _ e; rw [hn] at this; cases this
  have S₃ : SIn G h₀ env (a :: T) J σ s₂ := by
    obtain ⟨b0, b1, b2⟩ := S₂.base
    obtain ⟨m, cm, ns, cl, rp, ap⟩ := S₂.names
    refine ⟨⟨b0, b1, fun b hb => ?_⟩, S₂.sub, fun b hb => ?_, S₂.kind, S₂.nodup, S₂.kinds, .tail _ S₂.loc, fun b hb => ?_, fun n c e => ⟨.tail _ (S₂.cells n c e).1, (S₂.cells n c e).2⟩, S₂.apart, m, cm, ns, cl, fun x c hx => ?_, ap⟩
    · rcases List.mem_cons.mp hb with rfl | hb
      · exact none_of_keep S₁.base.2.1 hn
      · exact b2 b hb
    · rcases List.mem_cons.mp hb with rfl | hb
      · exact nJ
      · exact S₂.out b hb
    · rcases List.mem_cons.mp hb with rfl | hb
      · rw [ho]; exact Option.some_ne_none _
      · exact S₂.live b hb
    · have := rp x c hx
      cases c with
      | no => trivial
      | imm d => exact this
      | own l => obtain ⟨a, e, y⟩ := this; exact ⟨a, e, .tail _ y.mem, y.loc, y.cell, y.obj⟩
  have x₃ : Tr T J s₁ (a :: T) J s₂ := by
    have y := Tr.of_grow (T := T) g₂
    refine ⟨y.same, y.keep, y.alive, y.sub, y.new, fun b hb => ?_⟩
    rcases List.mem_cons.mp hb with rfl | hb
    · exact .inr hn
    · exact .inl hb
  refine S₃.store hi (c := .own ds) ⟨_, rfl, ⟨.head _, fun e => nT (e ▸ S₁.loc), fun n c e q => nT (q ▸ (S₁.cells n c e).1), _, _, ho, r⟩, fun m cm ns cl y l' hy hne e => ?_⟩ fun s₄ t₄ S₄ => h s₄ _ (x₃.trans t₄) S₄
  obtain ⟨m', cm', ns', cl', rp', _⟩ := S₂.names
  obtain ⟨a', e', y'⟩ := rp' y _ hy
  have hm : m = m' := by
    obtain ⟨o, es, ep, h1, h2, h3, h4⟩ := ns
    obtain ⟨o', es', ep', g1, g2, g3, g4⟩ := ns'
    rw [h1] at g1; cases g1
    rw [h2] at g2; cases g2
    funext z; rw [← h4 z, g4 z]
  have hcur : cur env m cm y = cur env m' cm' y := by
    unfold cur
    split
    · rw [hm]
    · rename_i hk
      obtain ⟨_, k2⟩ := S₂.kinds y (List.mem_map.mpr ⟨_, hy, rfl⟩)
      rcases k2 with k2 | ⟨_, c, k3⟩
      · exact absurd k2 hk
      · obtain ⟨o, h1, h2⟩ := cl y c k3
        obtain ⟨o', g1, g2⟩ := cl' y c k3
        rw [h1] at g1; cases g1
        rw [h2] at g2
        exact Data.cell.inj g2
  rw [hcur, e'] at e
  cases e
  exact nT y'.mem

theorem items_repL {I : Store} {a c : Int} : ∀ {n : Nat} {acc : Array Value}, ItemsOf (fun i v => ∃ t, v = .int (a + i * c) t) acc n → RepL I ((List.range n).map fun (i : Nat) => D.int (a + (i : Int) * c)) acc.toList := fun {n acc} h => by
  obtain ⟨hs, hi⟩ := h
  have key : ∀ (vs : List Value) (ds : List D), vs.length = ds.length → (∀ (j : Nat) v d, vs[j]? = some v → ds[j]? = some d → Rep I d v) → RepL I ds vs := by
    intro vs
    induction vs with
    | nil => intro ds hl _; cases ds with
      | nil => exact repL_nil.mpr rfl
      | cons d ds => simp at hl
    | cons v vs ih => intro ds hl hr; cases ds with
      | nil => simp at hl
      | cons d ds => exact repL_cons.mpr ⟨v, vs, rfl, hr 0 v d rfl rfl, ih ds (by simpa using hl) fun j v d e1 e2 => hr (j + 1) v d (by simpa using e1) (by simpa using e2)⟩
  refine key _ _ (by simp [hs]) fun j v d e1 e2 => ?_
  obtain ⟨t, rfl⟩ := hi j v (by simpa using e1)
  rw [List.getElem?_map] at e2
  cases q : (List.range n)[j]? with
  | none => rw [q] at e2; cases e2
  | some j' =>
    rw [q] at e2
    have hj : j' = j := by
      have := List.getElem?_eq_some_iff.mp q
      obtain ⟨_, h2⟩ := this
      rw [← h2, List.getElem_range]
    subst hj
    cases e2
    exact rep_int.mpr ⟨t, rfl⟩

/-- «x = list(range(..))» -/
@[reducible] def RngO (Q : Out → Prop) (σ : Sto) (i : Nat) (x : Str) : D → Prop := fun d => ∃ a b c n, d = .rng a b c ∧ Builtin.Range.small a b c = true ∧ Builtin.Range.rangeSize a b c = (n : Nat) ∧ n ≤ 2 ^ 24 ∧ Q (.next (σ.set i (x, .own ((List.range n).map fun (i : Nat) => D.int (a + (i : Int) * c)))))
theorem s_own_range {x : Str} {p' lp cp pos : Pos} {e : Expr} {i : Nat} {c0 : Cell} (hi : σ[i]? = some (x, c0)) (hg : (("list" : Str), Value.type "list") ∈ G.gl) (hk : sc.names.lookup ("list" : Str) = some .globalImplicit)
    (h : PE G k sc (immR σ) e (RngO Q σ i x))
    (hs : ∀ env, swapsWith (.Call (.Name "list" lp) [e] [] cp) (some (.Name x p')) pos.line env = pure false := by intro _; rfl)
    (hp : ∀ env pos, (backTo pos (starEach [e] env)).any (·.1) = false := by intro _ _; rfl) (he : ∀ env, starEach [e] env = [(false, eval e env)] := by intro _; rfl) :
    S1 G k sc σ (.Assign [.Name x p'] (.Call (.Name "list" lp) [e] [] cp) pos) Q := fun h₀ A env T I s oa eo S => by
  have hn : PE G k sc (immR σ) (.Name "list" lp) fun d => d = .val (.type "list") := pe_glob hg hk (d := .val (.type "list")) (fun I => rep_val.mpr rfl) rfl
  refine wpAny_Assign_Name (Call_ (then_PE hn oa eo S.immN fun v s₁ I₁ d g₁ N₁ r₁ q₁ => ?_)) (hs env)
  subst q₁
  rw [rep_val] at r₁
  subst r₁
  have hpl : PL G k sc (immR σ) [e] fun ds => ∃ d, ds = [d] ∧ RngO Q σ i x d :=
    pl_cons (h.mono fun d q => pl_nil ⟨d, rfl, q⟩) (fun env => (he env).trans rfl)
  refine PySem.callWith_type (hp env cp) (evalArgs_any (hp env cp) (wpAny_mono (hpl A env I₁ s₁ cp oa eo N₁) (fun vs s₂ hh => ?_) fun _ _ x => x))
  obtain ⟨J, ds, g₂, r₂, d, rfl, a, b, c, n, rfl, hsm, hrs, hle, q⟩ := hh
  obtain ⟨v, rfl, r₃⟩ := repL_one r₂
  obtain ⟨ra, t, u, z, rfl, hI⟩ := rep_rng.mp r₃
  have gg := g₁.trans g₂
  have S₂ := S.grow gg
  refine call_list_range oa.handled (r := ra) (g₂.sub' _ _ hI) hsm hrs hle fun h' tk acc' c' hkeep hobj hit => ?_
  have g₃ : Grow s₂ J { s₂ with heap := h', toks := tk } J := Grow.heap (t := tk) g₂.sub' hkeep
  refine S₂.ownNew g₃ (size_none _) hobj (items_repL hit) hi fun s₄ T' t₄ S₄ => ⟨_, _, _, (Tr.of_grow gg).trans t₄, S₄, q⟩
end

-- C14
set_option maxRecDepth 512
/-- the names of a comprehension, as its frame has them -/
noncomputable def relS (scope sc : Scope) : Scope :=
  { scope with names := scope.names.map fun (n, k) => if (k == .free && sc.kind == .function && sc.names.lookup n == some .cell) then (n, .cell) else (n, k) }
theorem relabel_eq {scope sc : Scope} {env : Env} (h : env.scope = sc) : relabel scope env = relS scope sc := by subst h; rfl

inductive Tgt : Expr → D → List (Str × D) → Prop
  | name (x p d) : Tgt (.Name x p) d [(x, d)]
  | pair (x y p q n tp) {d d₁ d₂} (h : IsSeq d [d₁, d₂]) : Tgt (.Tuple [.Name x p, .Name y q] n tp) d [(x, d₁), (y, d₂)]
noncomputable def tgtOk (scC : Scope) (ρ : List (Str × D)) (bs : List (Str × D)) : Bool :=
  bs.all (fun b => scC.names.lookup b.1 == some .local && !(b.1 == ("__debug__" : Str)) && !(ρ.map Prod.fst).contains b.1) && decide (bs.map Prod.fst).Nodup

noncomputable def CT (G : Gd) (k : Nat) (sc : Scope) (ρ : List (Str × D)) (ifs : List Expr) (Q : Bool → Prop) : Prop :=
  match ifs with
  | [] => Q true
  | [c] => TE G k sc ρ c Q
  | _ => False

/-- one item of the innermost «for» -/
noncomputable def stepL (G : Gd) (k : Nat) (sc : Scope) (ρ : List (Str × D)) (target : Expr) (ifs : List Expr) (elt : Expr) (d : D) (next : List D → Prop) : List D → Prop := fun acc =>
  ∃ bs, Tgt target d bs ∧ tgtOk sc ρ bs = true ∧ CT G k sc (bs ++ ρ) ifs fun ok => if ok then PE G k sc (bs ++ ρ) elt fun e => acc.length < 100000 ∧ next (acc ++ [e]) else next acc
noncomputable def CompL (G : Gd) (k : Nat) (sc : Scope) (ρ : List (Str × D)) (target : Expr) (ifs : List Expr) (elt : Expr) (K : List D → Prop) (items : List D) : List D → Prop :=
  items.foldr (stepL G k sc ρ target ifs elt) K
/-- one item of the outer «for» of two -/
noncomputable def stepO (G : Gd) (k : Nat) (sc : Scope) (ρ : List (Str × D)) (t₁ : Expr) (f₁ : List Expr) (t₂ i₂ : Expr) (f₂ : List Expr) (elt : Expr) (d : D) (next : List D → Prop) : List D → Prop := fun acc =>
  ∃ bs, Tgt t₁ d bs ∧ tgtOk sc ρ bs = true ∧ CT G k sc (bs ++ ρ) f₁ fun ok => if ok then IE G k sc (bs ++ ρ) i₂ (fun items => CompL G k sc (bs ++ ρ) t₂ f₂ elt next items acc) else next acc
noncomputable def CompO (G : Gd) (k : Nat) (sc : Scope) (ρ : List (Str × D)) (t₁ : Expr) (f₁ : List Expr) (t₂ i₂ : Expr) (f₂ : List Expr) (elt : Expr) (K : List D → Prop) (items : List D) : List D → Prop :=
  items.foldr (stepO G k sc ρ t₁ f₁ t₂ i₂ f₂ elt) K

/-- the frame of a comprehension at work -/
structure CIn (s₀ : Shared) (I₀ : Store) (C Dl : Addr) (m : Str → Option Value) (acc : List D) (I : Store) (s : Shared) : Prop where
  g : Grow s₀ I₀ s I
  ns : s.heap.Ns C m
  list : ∃ n ys, s.heap.get? Dl = some (lobj ys n) ∧ RepL I acc ys.toList
  outC : I C = none
  outD : I Dl = none
  newC : s₀.heap.get? C = none
  newD : s₀.heap.get? Dl = none
  ne : C ≠ Dl
theorem Ns.live {h : Heap} {C : Addr} {m : Str → Option Value} (n : h.Ns C m) : h.get? C ≠ none := by
  obtain ⟨o, _, _, e, _⟩ := n
  rw [e]; exact Option.some_ne_none _
section
variable {s₀ s s' : Shared} {I₀ I I' : Store} {C Dl : Addr} {m : Str → Option Value} {acc : List D}
theorem CIn.liveD (c : CIn s₀ I₀ C Dl m acc I s) : s.heap.get? Dl ≠ none := by
  obtain ⟨n, ys, e, _⟩ := c.list
  rw [e]; exact Option.some_ne_none _
theorem CIn.grow (c : CIn s₀ I₀ C Dl m acc I s) (g : Grow s I s' I') : CIn s₀ I₀ C Dl m acc I' s' := by
  obtain ⟨n, ys, e, r⟩ := c.list
  have no : ∀ b, I b = none → s.heap.get? b ≠ none → I' b = none := fun b h1 h2 => by
    cases q : I' b with
    | none => rfl
    | some o =>
      rcases g.new b o q with q | q
      · rw [h1] at q; cases q
      · exact absurd q h2
  exact ⟨c.g.trans g, c.ns.keeps g.keep, ⟨n, ys, g.keep _ _ e, r.mono g.sub⟩, no _ c.outC (Ns.live c.ns), no _ c.outD c.liveD, c.newC, c.newD, c.ne⟩
/-- a change at places that are new and not told -/
theorem CIn.wr (c : CIn s₀ I₀ C Dl m acc I s) {wr : List Addr} {h' : Heap} {t : Nat} (hk : ∀ b o, b ∉ wr → s.heap.get? b = some o → h'.get? b = some o) (hw : ∀ b ∈ wr, I b = none ∧ s₀.heap.get? b = none ∧ b ≠ C ∧ b ≠ Dl) :
    CIn s₀ I₀ C Dl m acc I { s with heap := h', toks := t } := by
  obtain ⟨n, ys, e, r⟩ := c.list
  obtain ⟨hh, tt, rfl⟩ := c.g.same
  refine ⟨⟨⟨h', t, rfl⟩, fun b o e => hk b o (fun q => ?_) (c.g.keep b o e), c.g.sub, fun b o e => hk b o (fun q => ?_) (c.g.sub' b o e), c.g.new⟩, c.ns.at' fun o e => hk _ o (fun q => (hw _ q).2.2.1 rfl) e, ⟨n, ys, hk _ _ (fun q => (hw _ q).2.2.2 rfl) e, r⟩, c.outC, c.outD, c.newC, c.newD, c.ne⟩
  · rw [(hw b q).2.1] at e; cases e
  · rw [(hw b q).1] at e; cases e
theorem CIn.setC (c : CIn s₀ I₀ C Dl m acc I s) {m' : Str → Option Value} {h' : Heap} {t : Nat} (n' : h'.Ns C m') (hs : Heap.SameBut C s.heap h') : CIn s₀ I₀ C Dl m' acc I { s with heap := h', toks := t } := by
  obtain ⟨n, ys, e, r⟩ := c.list
  obtain ⟨hh, tt, rfl⟩ := c.g.same
  refine ⟨⟨⟨h', t, rfl⟩, fun b o e => (hs.2 b fun q => ?_).trans (c.g.keep b o e), c.g.sub, fun b o e => (hs.2 b fun q => ?_).trans (c.g.sub' b o e), c.g.new⟩, n', ⟨n, ys, (hs.2 _ (Ne.symm c.ne)).trans e, r⟩, c.outC, c.outD, c.newC, c.newD, c.ne⟩
  · rw [q, c.newC] at e; cases e
  · rw [q, c.outC] at e; cases e
theorem CIn.push (c : CIn s₀ I₀ C Dl m acc I s) {h' : Heap} {t : Nat} {n : Nat} {ys : Array Value} {acc' : List D} (hs : Heap.SameBut Dl s.heap h') (e : h'.get? Dl = some (lobj ys n)) (r : RepL I acc' ys.toList) :
    CIn s₀ I₀ C Dl m acc' I { s with heap := h', toks := t } := by
  obtain ⟨hh, tt, rfl⟩ := c.g.same
  refine ⟨⟨⟨h', t, rfl⟩, fun b o e => (hs.2 b fun q => ?_).trans (c.g.keep b o e), c.g.sub, fun b o e => (hs.2 b fun q => ?_).trans (c.g.sub' b o e), c.g.new⟩, c.ns.sameBut hs c.ne, ⟨n, ys, e, r⟩, c.outC, c.outD, c.newC, c.newD, c.ne⟩
  · rw [q, c.newD] at e; cases e
  · rw [q, c.outD] at e; cases e
end

noncomputable def NB (cenv : Env) (s₀ : Shared) (I : Store) (m : Str → Option Value) (ρ : List (Str × D)) : Prop :=
  ∀ x d, (x, d) ∈ ρ → (x == ("__debug__" : Str)) = false ∧ ∃ v, Rep I d v ∧ ((cenv.kindOf x = some .local ∧ m x = some v) ∨ (cenv.kindOf x = some .cell ∧ ∃ c, cenv.cells.lookup x = some c ∧ s₀.heap.IsCell c (some v)))
theorem NB.mono {cenv : Env} {s₀ : Shared} {I J : Store} {m : Str → Option Value} {ρ : List (Str × D)} (h : NB cenv s₀ I m ρ) (hs : Sub I J) : NB cenv s₀ J m ρ := fun x d hx => let ⟨a, v, r, y⟩ := h x d hx; ⟨a, v, r.mono hs, y⟩
theorem NB.nin {G : Gd} {cenv : Env} {s₀ s : Shared} {I₀ I : Store} {C Dl : Addr} {m : Str → Option Value} {acc : List D} {ρ : List (Str × D)} (h : NB cenv s₀ I m ρ) (c : CIn s₀ I₀ C Dl m acc I s) (hC : cenv.locals = C) (hB : G.B s₀.heap) : NIn G cenv ρ I s := by
  refine ⟨G.keeps hB c.g.keep, c.g.sub', fun x d hx => ?_⟩
  obtain ⟨a, v, r, y⟩ := h x d hx
  refine ⟨a, v, ?_, r⟩
  rcases y with ⟨k1, e⟩ | ⟨k1, c', l, e⟩
  · exact .inl ⟨k1, m, hC ▸ c.ns, e⟩
  · exact .inr ⟨.inl k1, c', l, e.keeps c.g.keep⟩
/-- a target bound -/
theorem NB.bind {cenv : Env} {s₀ : Shared} {I : Store} {m : Str → Option Value} {ρ : List (Str × D)} {x : Str} {d : D} {v : Value} (h : NB cenv s₀ I m ρ) (hk : cenv.kindOf x = some .local) (hd : (x == ("__debug__" : Str)) = false) (r : Rep I d v) (hx : x ∉ ρ.map Prod.fst) :
    NB cenv s₀ I (fun z => if z = x then some v else m z) ((x, d) :: ρ) := fun y e hy => by
  rcases List.mem_cons.mp hy with q | hy
  · cases q; exact ⟨hd, v, r, .inl ⟨hk, by simp⟩⟩
  · have hne : y ≠ x := fun q => hx (q ▸ List.mem_map.mpr ⟨_, hy, rfl⟩)
    obtain ⟨a, u, r', z⟩ := h y e hy
    refine ⟨a, u, r', ?_⟩
    rcases z with ⟨k1, e1⟩ | z
    · exact .inl ⟨k1, by simp only [if_neg hne]; exact e1⟩
    · exact .inr z

section
variable {G : Gd} {k : Nat} {sc : Scope} {ρ : List (Str × D)}

theorem CIn.store1 {s₀ s : Shared} {I₀ I : Store} {C Dl : Addr} {m : Str → Option Value} {acc : List D} {cenv : Env} {A : Around} {x : Str} {v : Value} {E : Value → Shared → Prop} {Q : Unit → Shared → Prop} (c : CIn s₀ I₀ C Dl m acc I s) (hC : cenv.locals = C) (hk : cenv.scope.kind = .function) (hx : cenv.kindOf x = some .local)
    (h : ∀ s', CIn s₀ I₀ C Dl (fun z => if z = x then some v else m z) acc I s' → Tr [C, Dl] I s [C, Dl] I s' → Q () s') : wpAny G.M A (storeName cenv x v) Q E s := by
  subst hC
  refine wpAny_storeName_local hx c.ns (fun h' ns' hs => ?_) (by rw [hk]; rfl)
  refine h _ (c.setC ns' hs) ⟨⟨h', _, rfl⟩, fun b o hb e => (hs.2 b fun q => hb (q ▸ .head _)).trans e, fun b e => ?_, .refl _, fun _ _ e => .inl e, fun _ e => .inl e⟩
  by_cases hq : b = cenv.locals
  · subst hq; exact absurd e (Ns.live ns')
  · rw [← hs.2 b hq]; exact e

theorem CIn.bindT {s₀ s : Shared} {I₀ I : Store} {C Dl : Addr} {m : Str → Option Value} {acc : List D} {cenv : Env} {A : Around} {t : Expr} {d : D} {bs : List (Str × D)} {v : Value} {E : Value → Shared → Prop} {Q : Unit → Shared → Prop} (c : CIn s₀ I₀ C Dl m acc I s) (hC : cenv.locals = C) (eo : EnvOk sc cenv) (hh : A.handled = none)
    (n : NB cenv s₀ I m ρ) (ht : Tgt t d bs) (ho : tgtOk sc ρ bs = true) (r : Rep I d v)
    (h : ∀ m' s', CIn s₀ I₀ C Dl m' acc I s' → NB cenv s₀ I m' (bs ++ ρ) → Tr [C, Dl] I s [C, Dl] I s' → Q () s') : wpAny G.M A (assign t cenv v) Q E s := by
  have kd : ∀ x, cenv.kindOf x = sc.names.lookup x := fun x => by rw [Env.kindOf, eo.scope]
  have hk : cenv.scope.kind = .function := by rw [eo.scope]; exact eo.kind
  unfold tgtOk at ho
  simp only [Bool.and_eq_true, List.all_eq_true, Bool.not_eq_true', beq_iff_eq, decide_eq_true_eq] at ho
  obtain ⟨ho, hn⟩ := ho
  cases ht with
  | name x p d =>
    obtain ⟨⟨o1, o2⟩, o3⟩ := ho _ (.head _)
    refine wpAny_assign_Name (c.store1 hC hk ((kd x).trans o1) fun s' c' t' => h _ s' c' ?_ t')
    exact n.bind ((kd x).trans o1) o2 r (by simpa using o3)
  | pair x y p q nn tp hs =>
    obtain ⟨⟨o1, o2⟩, o3⟩ := ho _ (.head _)
    obtain ⟨⟨p1, p2⟩, p3⟩ := ho _ (.tail _ (.head _))
    rename_i d₁ d₂
    rw [arm_assign_Tuple]
    refine wpAny_bind (wpAny_standAt ?_)
    have hun : unpack v (assignEach [.Name x p, .Name y q] cenv) = (do assignInOrder [assign (.Name x p) cenv, assign (.Name y q) cenv] (← holding [v] (unpackItems v ([d₁, d₂] : List D).length none))) := rfl
    rw [hun]
    refine wpAny_bind (wpAny_holding (unpack_seq hh hs r c.g.sub' fun vs h' rl hkp => ?_))
    have g : Grow s I { s with heap := h' } I := Grow.heap (t := s.toks) c.g.sub' hkp
    obtain ⟨v₁, v₂, rfl, r₁, r₂⟩ := repL_two rl
    show wpAny _ A (do holding [v₂] (assign (.Name x p) cenv v₁); assignInOrder [assign (.Name y q) cenv] [v₂]) _ _ _
    refine wpAny_bind (wpAny_holding (wpAny_assign_Name ((c.grow g).store1 hC hk ((kd x).trans o1) fun s₁ c₁ t₁ => ?_)))
    show wpAny _ A (do holding [] (assign (.Name y q) cenv v₂); assignInOrder [] []) _ _ _
    refine wpAny_bind (wpAny_holding (wpAny_assign_Name (c₁.store1 hC hk ((kd y).trans p1) fun s₂ c₂ t₂ => ?_)))
    refine wpAny_pure (h _ s₂ c₂ ?_ ((Tr.of_grow g).trans (t₁.trans t₂)))
    have hne : x ≠ y := by simp at hn; exact hn
    have n1 : NB cenv s₀ I (fun z => if z = x then some v₁ else m z) ((x, d₁) :: ρ) := n.bind ((kd x).trans o1) o2 r₁ (by simpa using o3)
    have n2 := n1.bind (x := y) (d := d₂) (v := v₂) ((kd y).trans p1) p2 r₂ (by simp only [List.map_cons, List.mem_cons, not_or]; exact ⟨Ne.symm hne, by simpa using p3⟩)
    exact fun z e hz => n2 z e (by
      simp only [List.cons_append, List.nil_append, List.mem_cons] at hz ⊢
      rcases hz with h | h | h
      · exact .inr (.inl h)
      · exact .inl h
      · exact .inr (.inr h))

theorem ct_wp {A : Around} {cenv : Env} {I : Store} {s : Shared} {ifs : List Expr} {Q : Bool → Prop} {R : Bool → Shared → Prop} {E : Value → Shared → Prop} (h : CT G k sc ρ ifs Q) (oa : OkA k A) (eo : EnvOk sc cenv) (N : NIn G cenv ρ I s)
    (f : ∀ b s' I', Grow s I s' I' → Q b → R b s') : wpAny G.M A (forIn ifs true fun c r => if r = true then do let ok ← isTrue c cenv (eval c cenv); pure (ForInStep.yield ok) else pure (ForInStep.yield r)) R E s := by
  unfold CT at h
  split at h
  · exact wpAny_tests_nil (f _ _ I (Grow.refl N.sub) h)
  · exact wpAny_tests_one (wpAny_mono (h A cenv I s oa eo N) (fun b s' ⟨J, g, q⟩ => f b s' J g q) fun _ _ x => x.elim)
  · exact h.elim
end

-- C15
set_option maxRecDepth 512
noncomputable def compLast (e elt target iter : Expr) (ifs : List Expr) (depth : Nat) (it acc : Value) (env : Env) : Sem Fin := (do
      standAt iter.pos
      match ← pyNext it with
      | none => pure (.done .next)
      | some v =>
        letOwnedTupleGo target it v
        assign target env v
        let mut ok := true
        for c in ifs do
          if ok then ok ← isTrue c env (eval c env)
        if ok then
          (do let _ ← call (.builtin "list.append") [acc, ← eval elt env])
        again (.compLoop e depth it acc env))
theorem turn_last0 (elt target iter : Expr) (ifs : List Expr) (scope : Scope) (pos : Pos) (it acc : Value) (env : Env) :
    compTurn (.ListComp elt [⟨target, iter, ifs, 0⟩] scope pos) 0 it acc env = compLast (.ListComp elt [⟨target, iter, ifs, 0⟩] scope pos) elt target iter ifs 0 it acc env := by rfl
theorem turn_last1 (elt target iter : Expr) (ifs : List Expr) (g : Comprehension) (scope : Scope) (pos : Pos) (it acc : Value) (env : Env) :
    compTurn (.ListComp elt [g, ⟨target, iter, ifs, 0⟩] scope pos) 1 it acc env = compLast (.ListComp elt [g, ⟨target, iter, ifs, 0⟩] scope pos) elt target iter ifs 1 it acc env := by rfl
noncomputable def compOuter (e target iter : Expr) (ifs : List Expr) (iter' : Expr) (it acc : Value) (env : Env) : Sem Fin := (do
      standAt iter.pos
      match ← pyNext it with
      | none => pure (.done .next)
      | some v =>
        letOwnedTupleGo target it v
        assign target env v
        let mut ok := true
        for c in ifs do
          if ok then ok ← isTrue c env (eval c env)
        if ok then
          let x ← eval iter' env
          standAt iter'.pos
          let x ← foldedSetIterable iter' env x
          let _ ← runOwn (.compStart e 1 (← holding [x] (pyIter x)) acc env) env
        again (.compLoop e 0 it acc env))
theorem turn_outer (elt t₁ i₁ : Expr) (f₁ : List Expr) (t₂ i₂ : Expr) (f₂ : List Expr) (scope : Scope) (pos : Pos) (it acc : Value) (env : Env) :
    compTurn (.ListComp elt [⟨t₁, i₁, f₁, 0⟩, ⟨t₂, i₂, f₂, 0⟩] scope pos) 0 it acc env = compOuter (.ListComp elt [⟨t₁, i₁, f₁, 0⟩, ⟨t₂, i₂, f₂, 0⟩] scope pos) t₁ i₁ f₁ i₂ it acc env := by rfl

section
variable {G : Gd} {k : Nat} {sc : Scope} {ρ : List (Str × D)}

theorem tr_keep {T : List Addr} {I I' : Store} {s s' : Shared} (t : Tr T I s T I' s') {wr fp : List Addr} {P : Nat → Value → Prop} {St : Nat → Heap → Prop} {a : Addr} {n : Nat} {A : Around} (W : Walks G.prog G.w A a fp wr n P St) {i : Nat} (st : St i s.heap) (hfp : ∀ b ∈ fp, b ∉ T) : St i s'.heap :=
  W.frame _ _ _ st fun b hb o e => t.keep b o (hfp b hb) e

theorem wr_none {T wr : List Addr} {I I' : Store} {s s' : Shared} (t : Tr T I s T I' s') (hT : ∀ b ∈ wr, b ∉ T) (hl : ∀ b ∈ wr, s.heap.get? b ≠ none) (hw : ∀ b ∈ wr, I b = none) : ∀ b ∈ wr, I' b = none := fun b hb => by
  cases e : I' b with
  | none => rfl
  | some o =>
    rcases t.new b o e with q | q | q
    · rw [hw b hb] at q; cases q
    · exact absurd q (hT b hb)
    · exact absurd q (hl b hb)
theorem Tr.wider {T X : List Addr} {I I' : Store} {s s' : Shared} (t : Tr T I s T I' s') (h : ∀ b ∈ T, b ∈ X) : Tr X I s X I' s' :=
  ⟨t.same, fun b o hb e => t.keep b o (fun q => hb (h b q)) e, t.alive, t.sub, fun b o e => (t.new b o e).imp id (Or.imp (h b) id), fun _ e => .inl e⟩
theorem Tr.wrs {X wr : List Addr} {I₁ I : Store} {s₁ s : Shared} {h' : Heap} {tk : Nat} (t : Tr X I₁ s₁ X I s) (hk : ∀ b o, b ∉ wr → s.heap.get? b = some o → h'.get? b = some o) (hn : ∀ b ∈ wr, s₁.heap.get? b = none) : Tr X I₁ s₁ X I { s with heap := h', toks := tk } := by
  refine ⟨?_, fun b o hb e => hk b o (fun q => ?_) (t.keep b o hb e), fun b e => ?_, t.sub, t.new, t.newT⟩
  · obtain ⟨h, tt, rfl⟩ := t.same; exact ⟨h', tk, rfl⟩
  · rw [hn b q] at e; cases e
  · by_cases hb : b ∈ wr
    · exact hn b hb
    · refine t.alive b ?_
      cases q : s.heap.get? b with
      | none => rfl
      | some o =>
        have e' : h'.get? b = none := e
        rw [hk b o hb q] at e'
        cases e'
theorem Tr.at_ {X : List Addr} {I : Store} {s : Shared} {h' : Heap} {t : Nat} (hk : ∀ b o, b ∉ X → s.heap.get? b = some o → h'.get? b = some o) (hl : ∀ b ∈ X, h'.get? b ≠ none) : Tr X I s X I { s with heap := h', toks := t } := by
  refine ⟨⟨h', t, rfl⟩, hk, fun b e => ?_, .refl _, fun _ _ e => .inl e, fun _ e => .inl e⟩
  by_cases hb : b ∈ X
  · exact absurd e (hl b hb)
  · cases q : s.heap.get? b with
    | none => rfl
    | some o =>
      have e' : h'.get? b = none := e
      rw [hk b o hb q] at e'
      cases e'
theorem NB.rest {cenv : Env} {s₀ : Shared} {I : Store} {m : Str → Option Value} {bs ρ : List (Str × D)} (h : NB cenv s₀ I m (bs ++ ρ)) : NB cenv s₀ I m ρ := fun x d hx => h x d (List.mem_append_right _ hx)

/-- what a turn of a loop needs to be told, and keeps -/
structure LoopAt (G : Gd) (A : Around) (cenv : Env) (ρ : List (Str × D)) (s₀ : Shared) (I₀ : Store) (C Dl : Addr) (I₂ : Store) (fp wr : List Addr) (P : Nat → Value → Prop) (St : Nat → Heap → Prop) (i : Nat) (m : Str → Option Value) (acc : List D) (I : Store) (s : Shared) : Prop where
  c : CIn s₀ I₀ C Dl m acc I s
  n : NB cenv s₀ I m ρ
  sub : Sub I₂ I
  st : St i s.heap
  hw : ∀ b ∈ wr, I b = none ∧ s₀.heap.get? b = none ∧ b ≠ C ∧ b ≠ Dl

theorem LoopAt.fp {A : Around} {cenv : Env} {s₀ : Shared} {I₀ : Store} {C Dl : Addr} {I₂ : Store} {fp wr : List Addr} {P : Nat → Value → Prop} {St : Nat → Heap → Prop} {i : Nat} {m : Str → Option Value} {acc : List D} {I : Store} {s : Shared}
    (L : LoopAt G A cenv ρ s₀ I₀ C Dl I₂ fp wr P St i m acc I s) (old : ∀ b ∈ fp, b ∉ wr → ∃ o, I₂ b = some o) : ∀ b ∈ fp, b ∉ [C, Dl] := fun b hb q => by
  by_cases hbw : b ∈ wr
  · simp at q
    rcases q with rfl | rfl
    · exact (L.hw _ hbw).2.2.1 rfl
    · exact (L.hw _ hbw).2.2.2 rfl
  · obtain ⟨o, ho⟩ := old b hb hbw
    have := L.sub _ _ ho
    simp at q
    rcases q with rfl | rfl
    · rw [L.c.outC] at this; cases this
    · rw [L.c.outD] at this; cases this

/-- one turn up to the tests -/
theorem turn_head {A : Around} {cenv : Env} {s₀ sI s₂ : Shared} {I₀ II : Store} {C Dl a : Addr} {I₂ : Store} {fp wr : List Addr} {P : Nat → Value → Prop} {St : Nat → Heap → Prop} {items : List D} {i : Nat} {m : Str → Option Value} {acc : List D} {I : Store} {s : Shared}
    {target : Expr} {ifs : List Expr} {bs : List (Str × D)} {T1 : Bool → Prop} {E : Value → Shared → Prop} {X : Bool → Sem Fin} {R : Fin → Shared → Prop} (oa : OkA k A) (eo : EnvOk sc cenv) (hC : cenv.locals = C) (hB : G.B s₀.heap) (O : ItOk G A sI I₂ s₂ a fp wr P St items)
    (L : LoopAt G A cenv ρ s₀ I₀ C Dl I₂ fp wr P St i m acc I s) (t0 : Tr [C, Dl] II sI [C, Dl] I s) (hi : i < items.length) (ht : Tgt target items[i] bs) (ho : tgtOk sc ρ bs = true) (hT : CT G k sc (bs ++ ρ) ifs T1)
    (h : ∀ b m' I' s', LoopAt G A cenv (bs ++ ρ) s₀ I₀ C Dl I₂ fp wr P St (i + 1) m' acc I' s' → Tr [C, Dl] II sI [C, Dl] I' s' → T1 b → wpAny G.M A (X b) R E s') :
    wpAny G.M A (pyNext (.ref a) >>= fun r => match r with
      | none => pure (.done .next)
      | some v => (do
        letOwnedTupleGo target (.ref a) v
        assign target cenv v
        let ok ← (forIn ifs true fun c r => if r = true then do let ok ← isTrue c cenv (eval c cenv); pure (ForInStep.yield ok) else pure (ForInStep.yield r))
        X ok)) R E s := by
  refine wpAny_bind (O.walks.item i s _ _ hi L.st fun v h' tk hP st' hk => ?_)
  have hl' := O.live _ _ st'
  have c1 := L.c.wr (t := tk) hk L.hw
  have t1 : Tr [C, Dl] II sI [C, Dl] I { s with heap := h', toks := tk } := t0.wrs hk fun b hb => (O.new b hb).1
  obtain ⟨d, hd, r⟩ := O.rep i v hi hP
  have hd' : items[i] = d := by rw [List.getElem?_eq_getElem hi] at hd; exact Option.some.inj hd
  rw [hd'] at ht
  refine wpAny_bind (O.go (i + 1) _ _ _ _ _ st' ?_)
  refine wpAny_bind (c1.bindT hC eo oa.handled L.n ht ho (r.mono L.sub) fun m' s1 c2 n2 t2 => ?_)
  have hfp := L.fp O.old
  have hT' : ∀ b ∈ wr, b ∉ [C, Dl] := fun b hb => hfp b (O.walks.sub b hb)
  have st2 := tr_keep (G := G) t2 O.walks st' hfp
  refine wpAny_bind (ct_wp hT oa eo (n2.nin c2 hC hB) fun b s' I' g q => ?_)
  have t3 := Tr.of_grow (T := [C, Dl]) g
  have t23 := t2.trans t3
  refine h b m' I' s' ⟨c2.grow g, n2.mono g.sub, L.sub.trans g.sub, tr_keep (G := G) t3 O.walks st2 hfp, fun b hb => ⟨?_, (L.hw b hb).2⟩⟩ (t1.trans t23) q
  exact wr_none t23 hT' hl' (fun b hb => (L.hw b hb).1) b hb

/-- how the loop of a comprehension stands between two turns -/
inductive LpI (G : Gd) (A : Around) (cenv : Env) (ρ : List (Str × D)) (s₀ : Shared) (I₀ : Store) (C Dl : Addr) (I₂ : Store) (fp wr : List Addr) (P : Nat → Value → Prop) (St : Nat → Heap → Prop) (II : Store) (sI : Shared) (len : Nat) (F : Nat → List D → Prop) : Nat → Shared → Prop
  | mk {i : Nat} {m : Str → Option Value} {acc : List D} {I : Store} {s : Shared} (hi : i ≤ len) (L : LoopAt G A cenv ρ s₀ I₀ C Dl I₂ fp wr P St i m acc I s) (t : Tr [C, Dl] II sI [C, Dl] I s) (f : F i acc) : LpI G A cenv ρ s₀ I₀ C Dl I₂ fp wr P St II sI len F (len - i) s
theorem loop_last {elt target iter : Expr} {ifs : List Expr} {gens : List Comprehension} {scope : Scope} {pos : Pos} {depth : Nat}
    (hturn : ∀ it acc env, compTurn (.ListComp elt gens scope pos) depth it acc env = compLast (.ListComp elt gens scope pos) elt target iter ifs depth it acc env)
    {A : Around} {cenv : Env} {s₀ sI s₂ : Shared} {I₀ II : Store} {C Dl a : Addr} {I₂ : Store} {fp wr : List Addr} {P : Nat → Value → Prop} {St : Nat → Heap → Prop} {items : List D} {m : Str → Option Value} {acc : List D} {I : Store} {s : Shared} {K : List D → Prop} {R : Result → Shared → Prop}
    (oa : OkA k A) (eo : EnvOk sc cenv) (hC : cenv.locals = C) (hB : G.B s₀.heap) (O : ItOk G A sI I₂ s₂ a fp wr P St items) (L : LoopAt G A cenv ρ s₀ I₀ C Dl I₂ fp wr P St 0 m acc I s) (t0 : Tr [C, Dl] II sI [C, Dl] I s) (F : CompL G k sc ρ target ifs elt K items acc)
    (hR : ∀ m' acc' I' s', CIn s₀ I₀ C Dl m' acc' I' s' → NB cenv s₀ I' m' ρ → Tr [C, Dl] II sI [C, Dl] I' s' → K acc' → R (.ok .next) s') :
    codeAny G.M A (.compLoop (.ListComp elt gens scope pos) depth (.ref a) (.ref Dl) cenv) R s := by
  refine codeAny_loop rfl (LpI G A cenv ρ s₀ I₀ C Dl I₂ fp wr P St II sI items.length fun i acc => CompL G k sc ρ target ifs elt K (items.drop i) acc)
    (fun n s' hI => ?_) (items.length - 0) (.mk (Nat.zero_le _) L t0 F)
  cases hI with | @mk i m acc I' _ hi L t F =>
  show wpAny _ A ((compTurn (.ListComp elt gens scope pos) depth (.ref a) (.ref Dl) cenv).onRaise (fun x => do noteFrame x cenv; theTreesLotGoes x)) _ _ s'
  refine wpAny_noted (wpAny_gen fun RR hRR => ?_)
  rw [hturn]
  unfold compLast
  refine wpAny_bind (wpAny_standAt ?_)
  rcases Nat.lt_or_ge i items.length with hlt | hge
  · rw [List.drop_eq_getElem_cons hlt] at F
    obtain ⟨bs, ht, ho, hT⟩ : stepL G k sc ρ target ifs elt items[i] (CompL G k sc ρ target ifs elt K (items.drop (i + 1))) acc := F
    refine turn_head oa eo hC hB O L t hlt ht ho hT fun b m1 I1 s1 L1 t1 q => ?_
    cases b with
    | false =>
      exact wpAny_pure (hRR _ _ ⟨rfl, _, Nat.sub_succ_lt_self _ _ hlt, .mk hlt ⟨L1.c, L1.n.rest, L1.sub, L1.st, L1.hw⟩ t1 q⟩)
    | true =>
      simp only [if_true] at q ⊢
      refine wpAny_bind (wpAny_bind (wpAny_mono (q A cenv I1 s1 oa eo (L1.n.nin L1.c hC hB)) (fun v s3 ⟨J, d, g, r, hlen, q2⟩ => ?_) fun _ _ x => x.elim))
      have c3 := L1.c.grow g
      obtain ⟨n, ys, e, ry⟩ := c3.list
      have hys : ys.size ≤ sizeLine := by
        have := ry.length
        have h2 : sizeLine = 2 ^ 24 := rfl
        simp at this
        omega
      refine wpAny_bind (wpAny_list_append_plain (hsz := hys) ⟨n, e⟩ fun h4 hl4 hs4 => ?_)
      obtain ⟨n4, e4⟩ := hl4
      have c4 := c3.push (t := s3.toks) hs4 e4 (acc' := acc ++ [d]) (by rw [Array.toList_push]; exact ry.append (repL_cons.mpr ⟨v, [], rfl, r, repL_nil.mpr rfl⟩))
      have hfp := L1.fp O.old
      have hT' : ∀ b ∈ wr, b ∉ [C, Dl] := fun b hb => hfp b (O.walks.sub b hb)
      have hl1 := O.live _ _ L1.st
      have t3 := Tr.of_grow (T := [C, Dl]) g
      have t4 : Tr [C, Dl] J s3 [C, Dl] J { s3 with heap := h4 } := Tr.at_ (t := s3.toks) (fun b o hb e => (hs4.2 b fun q => hb (by simp [q])).trans e) fun b hb => by
        simp at hb
        rcases hb with rfl | rfl
        · exact Ns.live c4.ns
        · rw [e4]; exact Option.some_ne_none _
      have t34 := t3.trans t4
      exact wpAny_pure (wpAny_pure (hRR _ _ ⟨rfl, _, Nat.sub_succ_lt_self _ _ hlt, .mk hlt ⟨c4, L1.n.rest.mono g.sub, L1.sub.trans g.sub, tr_keep (G := G) t34 O.walks L1.st hfp, fun b hb => ⟨wr_none t34 hT' hl1 (fun b hb => (L1.hw b hb).1) b hb, (L1.hw b hb).2⟩⟩ (t1.trans t34) q2⟩))
  · cases Nat.le_antisymm hi hge
    refine wpAny_bind (O.walks.done _ _ _ L.st fun h1 tk hk => wpAny_pure (hRR _ _ ?_))
    rw [List.drop_length] at F
    exact hR m acc I' _ (L.c.wr (t := tk) hk L.hw) L.n (t.wrs hk fun b hb => (O.new b hb).1) F
end

-- C16
set_option maxRecDepth 512
section
variable {G : Gd} {k : Nat} {sc : Scope} {ρ : List (Str × D)}

theorem start_at {A : Around} {elt : Expr} {gens : List Comprehension} {scope : Scope} {pos : Pos} {depth : Nat} {a : Addr} {acc : Value} {env : Env} {R : Result → Shared → Prop} {s : Shared} {g : Comprehension} (hg : gens[depth]? = some g) (ha : g.is_async = 0)
    (h0 : codeAny G.M A (.compLoop (.ListComp elt gens scope pos) depth (.ref a) acc env) R s)
    (h : ∀ E, wpAny G.M A (pyIter (.ref a)) (fun it' s' => codeAny G.M A (.compLoop (.ListComp elt gens scope pos) depth it' acc env) R s') E s) :
    codeAny G.M A (.compStart (.ListComp elt gens scope pos) depth (.ref a) acc env) R s := by
  refine codeAny_of_tree ?_
  show wpAny _ _ ((compStart (.ListComp elt gens scope pos) depth (.ref a) acc env).onRaise (fun x => do noteFrame x env; standAt theWindowsPlace)) _ _ s
  refine wpAny_notedAt ?_
  unfold compStart
  have hcl : clausesOf (.ListComp elt gens scope pos) = gens := rfl
  rw [hcl, hg]
  simp only [Option.elim_some, ha, bne_self_eq_false, Bool.false_eq_true, if_false]
  refine wpAny_bind (wpAny_askSetting (wpAny_ite ?_))
  split
  · first
      | exact wpAny_bind (wpAny_pure (wpAny_pure (And.intro rfl h0)))
      | exact wpAny_pure (And.intro rfl h0)
  · refine wpAny_bind (wpAny_rule ?_)
    refine wpAny_bind (wpAny_standAt ?_)
    exact wpAny_bind (wpAny_mono (h _) (fun it' s' h' => wpAny_pure (And.intro rfl h')) fun _ _ x => x)

theorem loop_outer {elt t₁ i₁ t₂ i₂ : Expr} {f₁ f₂ : List Expr} {scope : Scope} {pos : Pos}
    {A : Around} {cenv : Env} {s₀ sI s₂ : Shared} {I₀ II : Store} {C Dl a : Addr} {I₂ : Store} {fp wr : List Addr} {P : Nat → Value → Prop} {St : Nat → Heap → Prop} {items : List D} {m : Str → Option Value} {acc : List D} {I : Store} {s : Shared} {K : List D → Prop} {R : Result → Shared → Prop}
    (hs : ∀ x env, foldedSetIterable i₂ env x = pure x)
    (oa : OkA k A) (eo : EnvOk sc cenv) (hC : cenv.locals = C) (hB : G.B s₀.heap) (O : ItOk G A sI I₂ s₂ a fp wr P St items) (L : LoopAt G A cenv ρ s₀ I₀ C Dl I₂ fp wr P St 0 m acc I s) (t0 : Tr [C, Dl] II sI [C, Dl] I s) (F : CompO G k sc ρ t₁ f₁ t₂ i₂ f₂ elt K items acc)
    (hR : ∀ m' acc' I' s', CIn s₀ I₀ C Dl m' acc' I' s' → NB cenv s₀ I' m' ρ → Tr [C, Dl] II sI [C, Dl] I' s' → K acc' → R (.ok .next) s') :
    codeAny G.M A (.compLoop (.ListComp elt [⟨t₁, i₁, f₁, 0⟩, ⟨t₂, i₂, f₂, 0⟩] scope pos) 0 (.ref a) (.ref Dl) cenv) R s := by
  refine codeAny_loop rfl (LpI G A cenv ρ s₀ I₀ C Dl I₂ fp wr P St II sI items.length fun i acc => CompO G k sc ρ t₁ f₁ t₂ i₂ f₂ elt K (items.drop i) acc)
    (fun n s' hI => ?_) (items.length - 0) (.mk (Nat.zero_le _) L t0 F)
  cases hI with | @mk i m acc I' _ hi L t F =>
  show wpAny _ A ((compTurn (.ListComp elt [⟨t₁, i₁, f₁, 0⟩, ⟨t₂, i₂, f₂, 0⟩] scope pos) 0 (.ref a) (.ref Dl) cenv).onRaise (fun x => do noteFrame x cenv; theTreesLotGoes x)) _ _ s'
  refine wpAny_noted (wpAny_gen fun RR hRR => ?_)
  rw [turn_outer]
  unfold compOuter
  refine wpAny_bind (wpAny_standAt ?_)
  rcases Nat.lt_or_ge i items.length with hlt | hge
  · rw [List.drop_eq_getElem_cons hlt] at F
    obtain ⟨bs, ht, ho, hT⟩ : stepO G k sc ρ t₁ f₁ t₂ i₂ f₂ elt items[i] (CompO G k sc ρ t₁ f₁ t₂ i₂ f₂ elt K (items.drop (i + 1))) acc := F
    refine turn_head oa eo hC hB O L t hlt ht ho hT fun b m1 I1 s1 L1 t1 q => ?_
    have hfp := L1.fp O.old
    have hT' : ∀ b ∈ wr, b ∉ [C, Dl] := fun b hb => hfp b (O.walks.sub b hb)
    have hl1 := O.live _ _ L1.st
    cases b with
    | false =>
      exact wpAny_pure (hRR _ _ ⟨rfl, _, Nat.sub_succ_lt_self _ _ hlt, .mk hlt ⟨L1.c, L1.n.rest, L1.sub, L1.st, L1.hw⟩ t1 q⟩)
    | true =>
      simp only [if_true] at q ⊢
      refine wpAny_bind (wpAny_mono (q A cenv I1 s1 oa eo (L1.n.nin L1.c hC hB)) (fun x s3 h3 => ?_) fun _ _ x => x.elim)
      refine wpAny_bind (wpAny_standAt (wpAny_bind (wpAny_of_eq (hs x cenv) ?_)))
      refine wpAny_bind (wpAny_holding (wpAny_mono h3 (fun it s4 h4 => ?_) fun _ _ x => x.elim))
      obtain ⟨I4, a', fp', wr', P', St', items', rfl, g, O', F'⟩ := h4
      have Lc : LoopAt G A cenv (bs ++ ρ) s₀ I₀ C Dl I4 fp' wr' P' St' 0 m1 acc I4 s4 := ⟨L1.c.grow g, L1.n.mono g.sub, .refl _, O'.start, fun b hb => by
        obtain ⟨n1, n2⟩ := O'.new b hb
        refine ⟨n2, none_of_keep L1.c.g.keep n1, fun q => ?_, fun q => ?_⟩
        · subst q; exact Ns.live L1.c.ns n1
        · subst q; exact L1.c.liveD n1⟩
      refine wpAny_bind (wpAny_runOwn ?_)
      rw [Around.mark_none]
      suffices lp : codeAny G.M A (.compLoop (.ListComp elt [⟨t₁, i₁, f₁, 0⟩, ⟨t₂, i₂, f₂, 0⟩] scope pos) 1 (.ref a') (.ref Dl) cenv) _ s4 from
        start_at (g := ⟨t₂, i₂, f₂, 0⟩) rfl rfl lp fun E => O'.walks.self 0 _ _ _ O'.start lp
      refine loop_last (iter := i₂) (fun it acc env => turn_last1 elt t₂ i₂ f₂ ⟨t₁, i₁, f₁, 0⟩ scope pos it acc env) oa eo hC hB O' Lc (Tr.of_grow g) F' fun m5 acc5 I5 s5 c5 n5 t5 F5 => wpAny_pure (hRR _ _ ?_)
      exact ⟨rfl, _, Nat.sub_succ_lt_self _ _ hlt, .mk hlt ⟨c5, n5.rest, L1.sub.trans t5.sub, tr_keep (G := G) t5 O.walks L1.st hfp, fun b hb => ⟨wr_none t5 hT' hl1 (fun b hb => (L1.hw b hb).1) b hb, (L1.hw b hb).2⟩⟩ (t1.trans t5) F5⟩
  · cases Nat.le_antisymm hi hge
    refine wpAny_bind (O.walks.done _ _ _ L.st fun h1 tk hk => wpAny_pure (hRR _ _ ?_))
    rw [List.drop_length] at F
    exact hR m acc I' _ (L.c.wr (t := tk) hk L.hw) L.n (t.wrs hk fun b hb => (O.new b hb).1) F

/-! ### the whole comprehension -/
@[reducible] def LisK (Q : D → Prop) : List D → Prop := fun acc => Q (.list acc)
@[reducible] def CmpLK (G : Gd) (k : Nat) (sc : Scope) (ρ : List (Str × D)) (target : Expr) (ifs : List Expr) (elt : Expr) (K : List D → Prop) : List D → Prop := fun items => CompL G k sc ρ target ifs elt K items []
@[reducible] def CmpOK (G : Gd) (k : Nat) (sc : Scope) (ρ : List (Str × D)) (t₁ : Expr) (f₁ : List Expr) (t₂ i₂ : Expr) (f₂ : List Expr) (elt : Expr) (K : List D → Prop) : List D → Prop := fun items => CompO G k sc ρ t₁ f₁ t₂ i₂ f₂ elt K items []
noncomputable def capt (scope sc : Scope) (ρ : List (Str × D)) : List (Str × D) := ρ.filter fun p => decide (scope.names.lookup p.1 = some .free) && decide (sc.names.lookup p.1 = some .cell)
noncomputable def compOk (scope sc : Scope) (ρ : List (Str × D)) : Bool :=
  decide (scope.kind = .function) && decide (sc.kind = .function) && scope.names.all (fun x => decide (x.2 ≠ .cell) && (decide (x.2 ≠ .local) || decide (scope.names.lookup x.1 = some .local)) &&
    (decide (x.2 ≠ .free) || (decide (sc.names.lookup x.1 = some .cell) && (ρ.map Prod.fst).contains x.1)))

theorem closure_go {env : Env} : ∀ (names : List (Str × NameKind)) (acc : List (Str × Addr)), (∀ x ∈ names, x.2 = .free → ∃ c, env.cells.lookup x.1 = some c) → (∀ p ∈ acc, env.cells.lookup p.1 = some p.2) →
    ∃ cl : List (Str × Addr), (forIn names acc fun (x : Str × NameKind) (cs : List (Str × Addr)) => if (x.2 == NameKind.free) = true then do let a ← cellOf env x.1; pure (ForInStep.yield ((x.1, a) :: cs)) else pure (ForInStep.yield cs)) = (pure cl : Sem _) ∧
      (∀ p ∈ cl, env.cells.lookup p.1 = some p.2) ∧ (∀ x ∈ names, x.2 = .free → x.1 ∈ cl.map Prod.fst) ∧ ∀ p ∈ acc, p ∈ cl
  | [], acc, _, ha => ⟨acc, rfl, ha, fun _ h => by simp at h, fun _ h => h⟩
  | (n, kd) :: r, acc, hf, ha => by
    rw [List.forIn_cons]
    by_cases hk : kd = .free
    · obtain ⟨c, hc⟩ := hf (n, kd) (.head _) hk
      obtain ⟨cl, e, h1, h2, h3⟩ := closure_go r ((n, c) :: acc) (fun x hx => hf x (.tail _ hx)) (fun p hp => (List.mem_cons.mp hp).elim (fun q => q ▸ hc) (ha p))
      refine ⟨cl, ?_, h1, fun x hx he => ?_, fun p hp => h3 p (.tail _ hp)⟩
      · rw [← e]
        have : cellOf env n = pure c := by unfold cellOf; rw [hc]
        simp only [hk, beq_self_eq_true, if_true, this]
        rfl
      · rcases List.mem_cons.mp hx with rfl | hx
        · exact List.mem_map.mpr ⟨(n, c), h3 _ (.head _), rfl⟩
        · exact h2 x hx he
    · obtain ⟨cl, e, h1, h2, h3⟩ := closure_go r acc (fun x hx => hf x (.tail _ hx)) ha
      refine ⟨cl, ?_, h1, fun x hx he => ?_, h3⟩
      · rw [← e]
        have : (kd == NameKind.free) = false := by simpa using hk
        simp only [this, Bool.false_eq_true, if_false]
        rfl
      · rcases List.mem_cons.mp hx with rfl | hx
        · exact absurd he hk
        · exact h2 x hx he

theorem closure_ok {env : Env} {scope : Scope} (hf : ∀ x ∈ scope.names, x.2 = .free → ∃ c, env.cells.lookup x.1 = some c) :
    ∃ cl : List (Str × Addr), closureFor scope env = pure cl ∧ ∀ x c, (x, NameKind.free) ∈ scope.names → env.cells.lookup x = some c → cl.lookup x = some c := by
  obtain ⟨cl, e, h1, h2, _⟩ := closure_go scope.names [] hf (fun p h => by simp at h)
  refine ⟨cl, ?_, fun x c hx hc => ?_⟩
  · unfold closureFor
    rw [← e]
    exact bind_pure _
  · obtain ⟨⟨n, c'⟩, hp, rfl⟩ := List.mem_map.mp (h2 (x, .free) hx rfl)
    cases q : cl.lookup n with
    | none =>
      have := List.lookup_eq_none_iff.mp q (n, c') hp
      simp at this
    | some c'' =>
      have := h1 (n, c'') (mem_of_lookup q)
      rw [hc] at this
      exact this.symm ▸ rfl

theorem lookup_relS {scope sc : Scope} {x : Str} (h : scope.names.lookup x = some .free) (h2 : sc.names.lookup x = some .cell) (hk : sc.kind = .function) : (relS scope sc).names.lookup x = some .cell := by
  unfold relS
  revert h
  generalize scope.names = l
  intro h
  induction l with
  | nil => simp at h
  | cons p r ih =>
    obtain ⟨n, kd⟩ := p
    by_cases hx : x = n
    · subst hx
      simp only [List.lookup_cons, beq_self_eq_true] at h
      cases h
      show List.lookup x ((if _ then _ else _) :: _) = _
      rw [if_pos (by rw [hk, h2]; rfl)]
      simp
    · have hb : (x == n) = false := by simpa using hx
      simp only [List.lookup_cons, hb] at h
      have := ih h
      show List.lookup x ((if _ then _ else _) :: _) = _
      split
      · simp only [List.lookup_cons, hb]; exact this
      · simp only [List.lookup_cons, hb]; exact this

theorem comp_start {elt : Expr} {g : Comprehension} {gs : List Comprehension} {scope : Scope} {pos pos' : Pos} {use : Option (Value → Sem Unit)} {QQ : Value → Shared → Prop} {A : Around} {env : Env} {I : Store} {s : Shared} {Z : List D → Prop} (ok : compOk scope sc ρ = true) (ha : g.is_async = 0)
    (oa : OkA k A) (eo : EnvOk sc env) (N : NIn G env ρ I s) (h : IE G k sc ρ g.iter Z) (hs : ∀ x, foldedSetIterable g.iter env x = pure x)
    (loop : ∀ cenv C Dl a I₂ s₂ fp wr P St items m s', EnvOk (relS scope sc) cenv → cenv.locals = C → ItOk G A s I₂ s₂ a fp wr P St items → LoopAt G A cenv (capt scope sc ρ) s I C Dl I₂ fp wr P St 0 m [] I₂ s' → Tr [C, Dl] I s [C, Dl] I₂ s' → Z items →
      codeAny G.M A (.compLoop (.ListComp elt (g :: gs) scope pos) 0 (.ref a) (.ref Dl) cenv) (compPost G.M A Bot use QQ (.ref Dl) C) s') :
    wpAny G.M A (comprehension (.ListComp elt (g :: gs) scope pos) scope env pos' (newList []) false (eval g.iter env) use) QQ Bot s := by
  unfold compOk at ok
  simp only [Bool.and_eq_true, decide_eq_true_eq, List.all_eq_true, Bool.or_eq_true] at ok
  obtain ⟨⟨hkind, hsk⟩, hn⟩ := ok
  have hval : ∀ x d, (x, d) ∈ ρ → sc.names.lookup x = some .cell → (x == ("__debug__" : Str)) = false ∧ ∃ c v, env.cells.lookup x = some c ∧ s.heap.IsCell c (some v) ∧ Rep I d v := fun x d hx hc => by
    obtain ⟨hd, v, V, r⟩ := N.val x d hx
    refine ⟨hd, ?_⟩
    rcases V with ⟨k1, _⟩ | ⟨_, c, k3, k4⟩
    · rw [Env.kindOf, eo.scope, hc] at k1; cases k1
    · exact ⟨c, v, k3, k4, r⟩
  obtain ⟨cl, hclos, hcl⟩ := closure_ok (env := env) (scope := scope) fun x hx hf => by
    rcases (hn x hx).2 with q | ⟨q1, q2⟩
    · exact absurd hf q
    · simp only [List.contains_eq_mem, decide_eq_true_eq, List.mem_map] at q2
      obtain ⟨⟨y, d⟩, hy, rfl⟩ := q2
      obtain ⟨_, c, v, hc, _⟩ := hval _ d hy q1
      exact ⟨c, hc⟩
  refine wpAny_comprehension_free (use := use) rfl hs hclos hkind (fun x hx hl => ?_) (wpAny_mono (h A env I s oa eo N) (fun xv s₁ h₁ => wpAny_mono h₁ (fun it s₂ h₂ => ?_) fun _ _ e => e) fun _ _ e => e)
  · rcases (hn x hx).1.2 with q | q
    · exact absurd hl q
    · exact q
  obtain ⟨I₂, a, fp, wr, P, St, items, rfl, gg, O, z⟩ := h₂
  refine wpAny_newObj_type (wpAny_newFunctionEnv (fun x hx => (hn x hx).1.1) (by intro y hy; simp at hy) (fun h₁ hns₁ hsb₁ => ?_) hkind)
  dsimp only at hns₁ hsb₁ ⊢
  generalize hH2 : s₂.heap.push { cls := .type "list", dict := none, data := .seq ([] : List Value).toArray } = H2 at hns₁ hsb₁ ⊢
  have hC : H2.objs.size = s₂.heap.objs.size + 1 := by rw [← hH2, Heap.size_push]
  have hDC : H2.objs.size ≠ s₂.heap.objs.size := by rw [hC]; exact Nat.succ_ne_self _
  have fresh : ∀ b, s₂.heap.objs.size ≤ b → s₂.heap.get? b = none := fun b hb => by
    cases e : s₂.heap.get? b with
    | none => rfl
    | some o => exact absurd (Heap.lt_size e) (Nat.not_lt.mpr hb)
  have nC : s₂.heap.get? H2.objs.size = none := fresh _ (by rw [hC]; exact Nat.le_succ _)
  have nD : s₂.heap.get? s₂.heap.objs.size = none := fresh _ (Nat.le_refl _)
  have old : ∀ b o, s₂.heap.get? b = some o → h₁.get? b = some o := fun b o e => hsb₁.extBut b o (fun q => by rw [q, nC] at e; cases e) (Heap.get?_push_of_some _ (hH2 ▸ Heap.get?_push_of_some _ e))
  have hacc : h₁.get? s₂.heap.objs.size = some (lobj #[] 0) := hsb₁.extBut _ _ (Ne.symm hDC) (Heap.get?_push_of_some _ (hH2 ▸ Heap.get?_push_size _ rfl))
  have none₂ : ∀ b, s₂.heap.get? b = none → I₂ b = none := fun b e => by
    cases q : I₂ b with
    | none => rfl
    | some o => rw [gg.sub' _ _ q] at e; cases e
  have g3 : Grow s₂ I₂ { s₂ with heap := h₁, toks := s₂.toks + ([] : List (Str × Value)).length } I₂ := Grow.heap gg.sub' old
  have c0 : CIn s I H2.objs.size s₂.heap.objs.size _ [] I₂ { s₂ with heap := h₁, toks := s₂.toks + ([] : List (Str × Value)).length } :=
    ⟨gg.trans g3, hns₁, ⟨0, #[], hacc, repL_nil.mpr rfl⟩, none₂ _ nC, none₂ _ nD, none_of_keep gg.keep nC, none_of_keep gg.keep nD, hDC⟩
  have st1 : St 0 h₁ := O.walks.frame _ _ _ O.start fun b _ o e => old b o e
  have lk : ∀ x, (relS scope sc).names.lookup x = (relS scope sc).names.lookup x := fun _ => rfl
  have key := fun cenv (he : EnvOk (relS scope sc) cenv) (hl : cenv.locals = H2.objs.size) (hcells : cenv.cells = cl) => loop cenv H2.objs.size s₂.heap.objs.size a I₂ s₂ fp wr P St items _ _ he hl O
    ⟨c0, fun x d hx => by
      obtain ⟨hx, hf⟩ := List.mem_filter.mp hx
      simp only [Bool.and_eq_true, decide_eq_true_eq] at hf
      obtain ⟨hd, c, v, hc, hcell, r⟩ := hval x d hx hf.2
      refine ⟨hd, v, r.mono gg.sub, .inr ⟨?_, c, ?_, hcell⟩⟩
      · rw [Env.kindOf, he.scope]; exact lookup_relS hf.1 hf.2 hsk
      · rw [hcells]; exact hcl x c (mem_of_lookup hf.1) hc, .refl _, st1, fun b hb => by
      obtain ⟨n1, n2⟩ := O.new b hb
      have := O.live _ _ O.start b hb
      refine ⟨n2, n1, fun q => ?_, fun q => ?_⟩
      · rw [q] at this; exact this nC
      · rw [q] at this; exact this nD⟩ ((Tr.of_grow gg).trans (Tr.of_grow g3)) z
  have he : EnvOk (relS scope sc) (compEnvC scope cl H2.objs.size env) := ⟨relabel_eq eo.scope, hkind, eo.globals, eo.builtins⟩
  have hloop := key (compEnvC scope cl H2.objs.size env) he rfl rfl
  exact start_at (g := g) rfl ha hloop fun E => O.walks.self 0 _ _ _ st1 hloop

theorem CIn.fin {s₀ s : Shared} {I₀ I : Store} {C Dl : Addr} {m : Str → Option Value} {acc : List D} {h' : Heap} {t : Nat} (c : CIn s₀ I₀ C Dl m acc I s) (hs : Heap.SameBut C s.heap h') :
    ∃ J, Grow s₀ I₀ { s with heap := h', toks := t } J ∧ Rep J (.list acc) (.ref Dl) ∧ J C = none := by
  obtain ⟨n, ys, e, r⟩ := c.list
  obtain ⟨hh, tt, rfl⟩ := c.g.same
  have hsub : Sub I (I.put Dl (lobj ys n)) := fun b o e1 => by
    unfold Store.put
    split
    · rename_i hb; subst hb; rw [c.outD] at e1; cases e1
    · exact e1
  refine ⟨I.put Dl (lobj ys n), ⟨⟨h', t, rfl⟩, fun b o e => (hs.2 b fun q => ?_).trans (c.g.keep b o e), c.g.sub.trans hsub, fun b o e1 => ?_, fun b o e => ?_⟩, rep_list.mpr ⟨Dl, n, ys, rfl, Store.put_self _ _ _, r.mono hsub⟩, ?_⟩
  · rw [q, c.newC] at e; cases e
  · unfold Store.put at e1
    split at e1
    · rename_i hb; subst hb; cases e1; exact (hs.2 b (Ne.symm c.ne)).trans e
    · exact (hs.2 b fun q => by rw [q, c.outC] at e1; cases e1).trans (c.g.sub' b o e1)
  · unfold Store.put at e
    split at e
    · rename_i hb; subst hb; exact .inr c.newD
    · exact c.g.new b o e
  · unfold Store.put
    rw [if_neg c.ne]; exact c.outC

variable {Q : D → Prop}
theorem pe_comp {elt target iter : Expr} {ifs : List Expr} {scope : Scope} {pos : Pos} (ok : compOk scope sc ρ = true)
    (h : IE G k sc ρ iter (CmpLK G k (relS scope sc) (capt scope sc ρ) target ifs elt (LisK Q))) (hs : ∀ x env, foldedSetIterable iter env x = pure x := by intro _ _; rfl) :
    PE G k sc ρ (.ListComp elt [⟨target, iter, ifs, 0⟩] scope pos) Q := fun A env I s oa eo N => by
  rw [eval_ListComp]
  refine comp_start (g := ⟨target, iter, ifs, 0⟩) ok rfl oa eo N h (fun x => hs x env) fun cenv C Dl a I₂ s₂ fp wr P St items m s' he hl O L t F => ?_
  refine loop_last (fun it acc env => turn_last0 elt target iter ifs scope pos it acc env) oa he hl N.base O L t F fun m' acc' I' s' c n t q => ?_
  exact ⟨m', c.ns, fun h' hsb => let ⟨J, g, r, _⟩ := c.fin (t := s'.toks) hsb; Res.one g r q⟩
theorem pe_comp2 {elt t₁ i₁ t₂ i₂ : Expr} {f₁ f₂ : List Expr} {scope : Scope} {pos : Pos} (ok : compOk scope sc ρ = true)
    (h : IE G k sc ρ i₁ (CmpOK G k (relS scope sc) (capt scope sc ρ) t₁ f₁ t₂ i₂ f₂ elt (LisK Q))) (hs : ∀ x env, foldedSetIterable i₁ env x = pure x := by intro _ _; rfl) (hs₂ : ∀ x env, foldedSetIterable i₂ env x = pure x := by intro _ _; rfl) :
    PE G k sc ρ (.ListComp elt [⟨t₁, i₁, f₁, 0⟩, ⟨t₂, i₂, f₂, 0⟩] scope pos) Q := fun A env I s oa eo N => by
  rw [eval_ListComp]
  refine comp_start (g := ⟨t₁, i₁, f₁, 0⟩) ok rfl oa eo N h (fun x => hs x env) fun cenv C Dl a I₂ s₂ fp wr P St items m s' he hl O L t F => ?_
  refine loop_outer hs₂ oa he hl N.base O L t F fun m' acc' I' s' c n t q => ?_
  exact ⟨m', c.ns, fun h' hsb => let ⟨J, g, r, _⟩ := c.fin (t := s'.toks) hsb; Res.one g r q⟩
end

-- C17
set_option maxRecDepth 512
section
variable {G : Gd} {k : Nat} {sc : Scope} {σ : Sto} {Q : Out → Prop}

/-- as s_assign, where what the statement is hangs on the names' table -/
theorem s_assign_sc {x : Str} {p' pos : Pos} {e : Expr} {i : Nat} {c0 : Cell} (hi : σ[i]? = some (x, c0)) (h : PE G k sc (immR σ) e fun d => Q (.next (σ.set i (x, .imm d))))
    (hs : ∀ env, env.scope = sc → swapsWith e (some (.Name x p')) pos.line env = pure false) : S1 G k sc σ (.Assign [.Name x p'] e pos) Q := fun h₀ A env T I s oa eo S =>
  wpAny_Assign_Name (wpAny_mono (h A env _ s oa eo S.immN) (fun v s' ⟨J, d, g, r, q⟩ =>
    (S.grow g).store hi (c := .imm d) r fun s'' t S' => ⟨_, _, _, (Tr.of_grow g).trans t, S', q⟩) fun _ _ x => x) (hs env eo.scope)
theorem swaps_cell {x : Str} {p' pos : Pos} {elt : Expr} {gens : List Comprehension} {scope : Scope} {line : Nat} (hx : sc.names.lookup x = some .cell) : ∀ env, env.scope = sc → swapsWith (.ListComp elt gens scope pos) (some (.Name x p')) line env = pure false := fun env he => by
  have hk : env.kindOf x = some .cell := by rw [Env.kindOf, he]; exact hx
  show (pure (env.blockKind == .function && env.kindOf x == some .local && p'.line == pos.line && !(scope.names.any fun (n, k) => n == x && (k == .local || k == .cell))) : Sem Bool) = _
  rw [hk]
  have : ((some NameKind.cell : Option NameKind) == some NameKind.local) = false := by decide
  rw [this, Bool.and_false, Bool.false_and, Bool.false_and]

theorem fin_used {x : Str} {py : Pos} {i : Nat} {c0 : Cell} {h₀ : Heap} {A : Around} {env : Env} {T : List Addr} {I I' : Store} {s s' : Shared} {C Dl : Addr} {m' : Str → Option Value} {acc : List D} (S : SIn G h₀ env T I σ s) (hi : σ[i]? = some (x, c0))
    (c : CIn s I C Dl m' acc I' s') (q : Q (.next (σ.set i (x, .imm (.list acc))))) :
    wpAny G.M A (assign (.Name x py) env (.ref Dl)) (fun _ s'' => ∃ m, s''.heap.Ns C m ∧ ∀ h', Heap.SameBut C s''.heap h' → SPost G h₀ env T I s Q .next { s'' with heap := h' }) Bot s' := by
  obtain ⟨J, g, r, hJC⟩ := c.fin (t := s'.toks) (Heap.SameBut.refl C s'.heap)
  have g' : Grow s I s' J := g
  have S' := S.grow g'
  have hCT : C ∉ T := fun h => S.live C h c.newC
  refine wpAny_assign_Name (S'.store hi (c := .imm (.list acc)) r fun s'' t S'' => ?_)
  refine ⟨m', c.ns.at' fun o e => t.keep C o hCT e, fun h' hs => ?_⟩
  have hk : ∀ b o, b ∉ [C] → s''.heap.get? b = some o → h'.get? b = some o := fun b o hb e => (hs.2 b fun q => hb (by simp [q])).trans e
  refine ⟨T, J, _, ((Tr.of_grow g').trans t).wrs (wr := [C]) (tk := s''.toks) hk (fun b hb => by simp at hb; subst hb; exact c.newC), S''.wr (wr := [C]) (t := s''.toks) hk fun b hb => ?_, q⟩
  simp at hb; subst hb
  exact ⟨hCT, hJC, none_of_keep S.base.2.1 c.newC⟩

theorem swaps_local {x : Str} {p' pos : Pos} {elt : Expr} {gens : List Comprehension} {scope : Scope} {line : Nat} {env : Env} (he : EnvOk sc env) (hx : sc.names.lookup x = some .local) (hl : (p'.line == pos.line) = true) (hxx : (scope.names.any fun (n, k) => n == x && (k == .local || k == .cell)) = false) :
    swapsWith (.ListComp elt gens scope pos) (some (.Name x p')) line env = pure true := by
  have hk : env.kindOf x = some .local := by rw [Env.kindOf, he.scope]; exact hx
  have hb : (env.blockKind == .function) = true := by
    unfold Env.blockKind
    rw [he.scope, he.kind]; rfl
  show (pure (env.blockKind == .function && env.kindOf x == some .local && p'.line == pos.line && !(scope.names.any fun (n, k) => n == x && (k == .local || k == .cell))) : Sem Bool) = _
  rw [hk, hb, hl, hxx]; rfl

/-- «x = [..for..]», x no name of a comprehension's -/
theorem s_assign_comp {x : Str} {p' pos spos : Pos} {elt target iter : Expr} {ifs : List Expr} {scope : Scope} {i : Nat} {c0 : Cell} (hi : σ[i]? = some (x, c0)) (hx : sc.names.lookup x = some .local) (hxx : (scope.names.any fun (n, k) => n == x && (k == .local || k == .cell)) = false) (ok : compOk scope sc (immR σ) = true)
    (h : IE G k sc (immR σ) iter fun items => CompL G k (relS scope sc) (capt scope sc (immR σ)) target ifs elt (fun acc => Q (.next (σ.set i (x, .imm (.list acc))))) items [])
    (hl : (p'.line == pos.line) = true := by rfl) (hs : ∀ x env, foldedSetIterable iter env x = pure x := by intro _ _; rfl) :
    S1 G k sc σ (.Assign [.Name x p'] (.ListComp elt [⟨target, iter, ifs, 0⟩] scope pos) spos) Q := fun h₀ A env T I s oa eo S => by
  rw [exec_Assign_Name_used _ _ _ _ (swaps_local eo hx hl hxx)]
  refine wpAny_bind (wpAny_standAt (wpAny_bind ?_))
  show wpAny _ A (do let _ ← comprehension (.ListComp elt [⟨target, iter, ifs, 0⟩] scope pos) scope env _ (newList []) false (eval iter env) (some (assign (.Name x p') env))) _ _ s
  refine wpAny_bind (wpAny_mono (comp_start (QQ := fun _ s' => SPost G h₀ env T I s Q .next s') (g := ⟨target, iter, ifs, 0⟩) ok rfl oa eo S.immN h (fun x => hs x env) fun cenv C Dl a I₂ s₂ fp wr P St items m s' he hl O L t F => ?_) (fun _ s' hq => wpAny_pure (wpAny_pure hq)) fun _ _ e => e)
  refine loop_last (fun it acc env => turn_last0 elt target iter ifs scope pos it acc env) oa he hl S.immN.base O L t F fun m' acc' I' s' c n t q => ?_
  exact fin_used S hi c q
theorem s_assign_comp2 {x : Str} {p' pos spos : Pos} {elt t₁ i₁ t₂ i₂ : Expr} {f₁ f₂ : List Expr} {scope : Scope} {i : Nat} {c0 : Cell} (hi : σ[i]? = some (x, c0)) (hx : sc.names.lookup x = some .local) (hxx : (scope.names.any fun (n, k) => n == x && (k == .local || k == .cell)) = false) (ok : compOk scope sc (immR σ) = true)
    (h : IE G k sc (immR σ) i₁ fun items => CompO G k (relS scope sc) (capt scope sc (immR σ)) t₁ f₁ t₂ i₂ f₂ elt (fun acc => Q (.next (σ.set i (x, .imm (.list acc))))) items [])
    (hl : (p'.line == pos.line) = true := by rfl) (hs : ∀ x env, foldedSetIterable i₁ env x = pure x := by intro _ _; rfl) (hs₂ : ∀ x env, foldedSetIterable i₂ env x = pure x := by intro _ _; rfl) :
    S1 G k sc σ (.Assign [.Name x p'] (.ListComp elt [⟨t₁, i₁, f₁, 0⟩, ⟨t₂, i₂, f₂, 0⟩] scope pos) spos) Q := fun h₀ A env T I s oa eo S => by
  rw [exec_Assign_Name_used _ _ _ _ (swaps_local eo hx hl hxx)]
  refine wpAny_bind (wpAny_standAt (wpAny_bind ?_))
  show wpAny _ A (do let _ ← comprehension (.ListComp elt [⟨t₁, i₁, f₁, 0⟩, ⟨t₂, i₂, f₂, 0⟩] scope pos) scope env _ (newList []) false (eval i₁ env) (some (assign (.Name x p') env))) _ _ s
  refine wpAny_bind (wpAny_mono (comp_start (QQ := fun _ s' => SPost G h₀ env T I s Q .next s') (g := ⟨t₁, i₁, f₁, 0⟩) ok rfl oa eo S.immN h (fun x => hs x env) fun cenv C Dl a I₂ s₂ fp wr P St items m s' he hl O L t F => ?_) (fun _ s' hq => wpAny_pure (wpAny_pure hq)) fun _ _ e => e)
  refine loop_outer hs₂ oa he hl S.immN.base O L t F fun m' acc' I' s' c n t q => ?_
  exact fin_used S hi c q
end

-- C18
set_option maxRecDepth 512
inductive UpdF : Sto → Str → Cell → (Cell → Sto) → Prop
  | head (x c0 r) : UpdF ((x, c0) :: r) x c0 (fun c => (x, c) :: r)
  | tail (p) {r x c0 f} (h : UpdF r x c0 f) : UpdF (p :: r) x c0 (fun c => p :: f c)
theorem UpdF.idx {σ : Sto} {x : Str} {c0 : Cell} {mk : Cell → Sto} (u : UpdF σ x c0 mk) : ∃ i, σ[i]? = some (x, c0) ∧ ∀ c, σ.set i (x, c) = mk c := by
  induction u with
  | head x c0 r => exact ⟨0, rfl, fun c => rfl⟩
  | tail p h ih => obtain ⟨i, a, b⟩ := ih; exact ⟨i + 1, by simpa using a, fun c => by rw [List.set_cons_succ, b]⟩

/-- one cell of a store is turned -/
inductive UpdR : Sto → Str → Cell → Cell → Sto → Prop
  | head (x c0 c r) : UpdR ((x, c0) :: r) x c0 c ((x, c) :: r)
  | tail (p) {r x c0 c r'} (h : UpdR r x c0 c r') : UpdR (p :: r) x c0 c (p :: r')
theorem UpdR.idx {σ σ' : Sto} {x : Str} {c0 c : Cell} (u : UpdR σ x c0 c σ') : ∃ i, σ[i]? = some (x, c0) ∧ σ.set i (x, c) = σ' := by
  induction u with
  | head x c0 c r => exact ⟨0, rfl, rfl⟩
  | tail p h ih => obtain ⟨i, a, b⟩ := ih; exact ⟨i + 1, by simpa using a, by rw [List.set_cons_succ, b]⟩
inductive MemC : Sto → Str → Cell → Prop
  | head (x c r) : MemC ((x, c) :: r) x c
  | tail (p) {r x c} (h : MemC r x c) : MemC (p :: r) x c
theorem MemC.idx {σ : Sto} {x : Str} {c : Cell} (u : MemC σ x c) : ∃ i : Nat, σ[i]? = some (x, c) := by
  induction u with
  | head x c r => exact ⟨0, rfl⟩
  | tail p h ih => obtain ⟨i, a⟩ := ih; exact ⟨i + 1, by simpa using a⟩
theorem one_cell {x : Str} {c c' : Cell} : ∀ {σ : Sto} {i j : Nat}, (σ.map Prod.fst).Nodup → σ[i]? = some (x, c) → σ[j]? = some (x, c') → i = j := fun {σ i j} hn hi hj => by
  have e1 : (σ.map Prod.fst)[i]? = some x := by rw [List.getElem?_map, hi]; rfl
  have e2 : (σ.map Prod.fst)[j]? = some x := by rw [List.getElem?_map, hj]; rfl
  have hl : i < (σ.map Prod.fst).length := by
    rcases Nat.lt_or_ge i (σ.map Prod.fst).length with h | h
    · exact h
    · rw [List.getElem?_eq_none h] at e1; cases e1
  exact (List.getElem?_inj hl hn).mp (e1.trans e2.symm)

inductive MemI : Sto → Str → D → Prop
  | head (x d r) : MemI ((x, .imm d) :: r) x d
  | tail (p) {r x d} (h : MemI r x d) : MemI (p :: r) x d
inductive MemF : Sto → Str → D → Prop
  | head (x d r) : MemF ((x, .imm d) :: r) x d
  | own (x l r) : MemF ((x, .own l) :: r) x (.list l)
  | tail (p) {r x d} (h : MemF r x d) : MemF (p :: r) x d
theorem mem_I {σ : Sto} {x : Str} {d : D} (h : MemI σ x d) : (x, d) ∈ immR σ := by
  induction h with
  | head x d r => exact .head _
  | tail p h ih =>
    obtain ⟨y, c⟩ := p
    cases c with
    | no => exact ih
    | imm d => exact .tail _ ih
    | own l => exact ih
theorem mem_F {σ : Sto} {x : Str} {d : D} (h : MemF σ x d) : (x, d) ∈ fullR σ := by
  induction h with
  | head x d r => exact .head _
  | own x l r => exact .head _
  | tail p h ih =>
    obtain ⟨y, c⟩ := p
    cases c with
    | no => exact ih
    | imm d => exact .tail _ ih
    | own l => exact .tail _ ih
theorem mem_capt {scope sc : Scope} {ρ : List (Str × D)} {x : Str} {d : D} (h : (x, d) ∈ ρ) (h1 : decide (scope.names.lookup x = some .free) = true) (h2 : decide (sc.names.lookup x = some .cell) = true) : (x, d) ∈ capt scope sc ρ :=
  List.mem_filter.mpr ⟨h, by simp only [h1, h2, Bool.and_self]⟩
theorem mem_app_l {α : Type} {a : α} {l r : List α} (h : a ∈ l) : a ∈ l ++ r := List.mem_append_left _ h
theorem mem_app_r {α : Type} {a : α} {l r : List α} (h : a ∈ r) : a ∈ l ++ r := List.mem_append_right _ h

@[reducible] def AsgK (Q : Out → Prop) (mk : Cell → Sto) : D → Prop := fun d => Q (.next (mk (.imm d)))
@[reducible] def AsgL (Q : Out → Prop) (mk : Cell → Sto) : List D → Prop := fun acc => Q (.next (mk (.imm (.list acc))))
@[reducible] def AsgS (Q : Out → Prop) (mk : Cell → Sto) : D → Prop := fun d => Scal d ∧ Q (.next (mk (.imm d)))
@[reducible] def OwnK (Q : Out → Prop) (mk : Cell → Sto) : List D → Prop := fun ds => ds.length ≤ 1000 ∧ Q (.next (mk (.own ds)))
@[reducible] def AppK (Q : Out → Prop) (mk : Cell → Sto) (l : List D) : D → Prop := fun d => Q (.next (mk (.own (l ++ [d]))))
@[reducible] def SetK (Q : Out → Prop) (mk : Cell → Sto) (l : List D) (j : Int) : D → Prop := fun d => Q (.next (mk (.own (l.set j.toNat d))))

section
variable {G : Gd} {k : Nat} {sc : Scope} {σ : Sto} {Q : Out → Prop}

theorem s_asg {x : Str} {p' pos : Pos} {e : Expr} {c0 : Cell} {mk : Cell → Sto} (u : UpdF σ x c0 mk) (h : PE G k sc (immR σ) e (AsgK Q mk))
    (hs : ∀ env, swapsWith e (some (.Name x p')) pos.line env = pure false := by intro _; rfl) : S1 G k sc σ (.Assign [.Name x p'] e pos) Q := by
  obtain ⟨i, hi, e1⟩ := u.idx
  exact s_assign hi (by simpa only [e1] using h) hs
theorem s_asgC {x : Str} {p' pos pos' : Pos} {elt : Expr} {gens : List Comprehension} {scope : Scope} {c0 : Cell} {mk : Cell → Sto} (u : UpdF σ x c0 mk) (hx : sc.names.lookup x = some .cell) (h : PE G k sc (immR σ) (.ListComp elt gens scope pos') (AsgK Q mk)) :
    S1 G k sc σ (.Assign [.Name x p'] (.ListComp elt gens scope pos') pos) Q := by
  obtain ⟨i, hi, e1⟩ := u.idx
  exact s_assign_sc hi (by simpa only [e1] using h) (swaps_cell hx)
theorem s_augF {x : Str} {op : Operator} {p' pos : Pos} {e : Expr} {d₀ : D} {mk : Cell → Sto} (u : UpdF σ x (.imm d₀) mk) (h : PE G k sc (fullR σ) e (Op2K G k (inplaceOp op) d₀ (AsgS Q mk))) :
    S1 G k sc σ (.AugAssign (.Name x p') op e pos) Q := by
  obtain ⟨i, hi, e1⟩ := u.idx
  exact s_aug hi (by simpa only [e1] using h)
theorem ae_nm {x : Str} {p : Pos} {d : D} {c0 : Cell} {σ' : Sto} {Q : Sto → Prop} (u : UpdR σ x c0 (.imm d) σ') (h : Q σ') : AE G k sc σ (.Name x p) d Q := by
  obtain ⟨i, hi, e1⟩ := u.idx
  exact ae_name hi (by rw [e1]; exact h)
theorem se_frz {x : Str} {l : List D} {b : List Stmt} {σ' : Sto} (u : UpdR σ x (.own l) (.imm (.list l)) σ') (h : SE G k sc σ' b Q) : SE G k sc σ b Q := by
  obtain ⟨i, hi, e1⟩ := u.idx
  exact se_freeze i hi (by rw [e1]; exact h)
theorem s_ownR {x : Str} {p' lp cp pos : Pos} {e : Expr} {c0 : Cell} {mk : Cell → Sto} (u : UpdF σ x c0 mk) (hg : (("list" : Str), Value.type "list") ∈ G.gl) (hk : sc.names.lookup ("list" : Str) = some .globalImplicit)
    (h : PE G k sc (immR σ) e fun d => ∃ a b c n, d = .rng a b c ∧ Builtin.Range.small a b c = true ∧ Builtin.Range.rangeSize a b c = (n : Nat) ∧ n ≤ 2 ^ 24 ∧ Q (.next (mk (.own ((List.range n).map fun (i : Nat) => D.int (a + (i : Int) * c))))))
    (hs : ∀ env, swapsWith (.Call (.Name "list" lp) [e] [] cp) (some (.Name x p')) pos.line env = pure false := by intro _; rfl)
    (hp : ∀ env pos, (backTo pos (starEach [e] env)).any (·.1) = false := by intro _ _; rfl) (he : ∀ env, starEach [e] env = [(false, eval e env)] := by intro _; rfl) :
    S1 G k sc σ (.Assign [.Name x p'] (.Call (.Name "list" lp) [e] [] cp) pos) Q := by
  obtain ⟨i, hi, e1⟩ := u.idx
  exact s_own_range hi hg hk (h.mono fun d q => by obtain ⟨a, b, c, n, h1, h2, h3, h4, h5⟩ := q; exact ⟨a, b, c, n, h1, h2, h3, h4, by rw [e1]; exact h5⟩) hs hp he
theorem s_comp {x : Str} {p' pos spos : Pos} {elt target iter : Expr} {ifs : List Expr} {scope : Scope} {c0 : Cell} {mk : Cell → Sto} (u : UpdF σ x c0 mk) (hx : sc.names.lookup x = some .local) (hxx : (scope.names.any fun (n, k) => n == x && (k == .local || k == .cell)) = false) (ok : compOk scope sc (immR σ) = true)
    (h : IE G k sc (immR σ) iter (CmpLK G k (relS scope sc) (capt scope sc (immR σ)) target ifs elt (AsgL Q mk)))
    (hl : (p'.line == pos.line) = true := by rfl) (hs : ∀ x env, foldedSetIterable iter env x = pure x := by intro _ _; rfl) :
    S1 G k sc σ (.Assign [.Name x p'] (.ListComp elt [⟨target, iter, ifs, 0⟩] scope pos) spos) Q := by
  obtain ⟨i, hi, e1⟩ := u.idx
  exact s_assign_comp hi hx hxx ok (by simpa only [e1] using h) hl hs
theorem s_comp2 {x : Str} {p' pos spos : Pos} {elt t₁ i₁ t₂ i₂ : Expr} {f₁ f₂ : List Expr} {scope : Scope} {c0 : Cell} {mk : Cell → Sto} (u : UpdF σ x c0 mk) (hx : sc.names.lookup x = some .local) (hxx : (scope.names.any fun (n, k) => n == x && (k == .local || k == .cell)) = false) (ok : compOk scope sc (immR σ) = true)
    (h : IE G k sc (immR σ) i₁ (CmpOK G k (relS scope sc) (capt scope sc (immR σ)) t₁ f₁ t₂ i₂ f₂ elt (AsgL Q mk)))
    (hl : (p'.line == pos.line) = true := by rfl) (hs : ∀ x env, foldedSetIterable i₁ env x = pure x := by intro _ _; rfl) (hs₂ : ∀ x env, foldedSetIterable i₂ env x = pure x := by intro _ _; rfl) :
    S1 G k sc σ (.Assign [.Name x p'] (.ListComp elt [⟨t₁, i₁, f₁, 0⟩, ⟨t₂, i₂, f₂, 0⟩] scope pos) spos) Q := by
  obtain ⟨i, hi, e1⟩ := u.idx
  exact s_assign_comp2 hi hx hxx ok (by simpa only [e1] using h) hl hs hs₂
end

/-! ### one statement and what stands behind it -/
noncomputable def StR (G : Gd) (k : Nat) (sc : Scope) (rest : List Stmt) (Q : Out → Prop) (σ : Sto) (x : Str) (c : Cell) : Prop := ∃ c0 σ', UpdR σ x c0 c σ' ∧ SE G k sc σ' rest Q
@[reducible] def AsgR (G : Gd) (k : Nat) (sc : Scope) (rest : List Stmt) (Q : Out → Prop) (σ : Sto) (x : Str) : D → Prop := fun d => StR G k sc rest Q σ x (.imm d)
@[reducible] def AsgRS (G : Gd) (k : Nat) (sc : Scope) (rest : List Stmt) (Q : Out → Prop) (σ : Sto) (x : Str) : D → Prop := fun d => Scal d ∧ StR G k sc rest Q σ x (.imm d)
@[reducible] def OwnL (G : Gd) (k : Nat) (sc : Scope) (rest : List Stmt) (Q : Out → Prop) (σ : Sto) (x : Str) : List D → Prop := fun ds => ds.length ≤ 1000 ∧ StR G k sc rest Q σ x (.own ds)
@[reducible] def AppR (G : Gd) (k : Nat) (sc : Scope) (rest : List Stmt) (Q : Out → Prop) (σ : Sto) (x : Str) (l : List D) : D → Prop := fun d => StR G k sc rest Q σ x (.own (l ++ [d]))
@[reducible] def SetR (G : Gd) (k : Nat) (sc : Scope) (rest : List Stmt) (Q : Out → Prop) (σ : Sto) (x : Str) (l : List D) (j : Int) : D → Prop := fun d => StR G k sc rest Q σ x (.own (l.set j.toNat d))
section
variable {G : Gd} {k : Nat} {sc : Scope} {σ σ' : Sto} {Q : Out → Prop} {rest : List Stmt} {x : Str} {c0 : Cell} {d : D} {ds l : List D}
theorem seId {b : List Stmt} (h : SE G k sc σ b Q) : SE G k sc σ b Q := h
theorem stR {c : Cell} (u : UpdR σ x c0 c σ') (h : SE G k sc σ' rest Q) : StR G k sc rest Q σ x c := ⟨c0, σ', u, h⟩
theorem stR_own {ds' : List D} (e : ds = ds') (u : UpdR σ x c0 (.own ds') σ') (h : SE G k sc σ' rest Q) : StR G k sc rest Q σ x (.own ds) := by subst e; exact ⟨c0, σ', u, h⟩
theorem stR_imm {d' : D} (e : d = d') (u : UpdR σ x c0 (.imm d') σ') (h : SE G k sc σ' rest Q) : StR G k sc rest Q σ x (.imm d) := by subst e; exact ⟨c0, σ', u, h⟩
theorem se_asg {p' pos : Pos} {e : Expr} (hs : ∀ env, swapsWith e (some (.Name x p')) pos.line env = pure false) (h : PE G k sc (immR σ) e (AsgR G k sc rest Q σ x)) : SE G k sc σ (.Assign [.Name x p'] e pos :: rest) Q :=
  se_cons fun h₀ A env T I s oa eo S => wpAny_Assign_Name (wpAny_mono (h A env _ s oa eo S.immN) (fun v s' ⟨J, d, g, r, c0, σ', u, q⟩ => by
    obtain ⟨i, hi, e1⟩ := u.idx
    exact (S.grow g).store hi (c := .imm d) r fun s'' t S' => ⟨_, _, _, (Tr.of_grow g).trans t, S', by rw [e1]; exact q⟩) fun _ _ x => x) (hs env)
theorem se_asgF {p' pos : Pos} {e : Expr} (hs : ∀ env, swapsWith e (some (.Name x p')) pos.line env = pure false) (h : PE G k sc (fullR σ) e (AsgRS G k sc rest Q σ x)) : SE G k sc σ (.Assign [.Name x p'] e pos :: rest) Q :=
  se_cons fun h₀ A env T I s oa eo S => wpAny_Assign_Name (wpAny_mono (h A env _ s oa eo S.fullN) (fun v s' ⟨J, d, g, r, sd, c0, σ', u, q⟩ => by
    obtain ⟨i, hi, e1⟩ := u.idx
    have g' := g.drop S.sub
    exact (S.grow g').store hi (c := .imm d) (sd.rep r) fun s'' t S' => ⟨_, _, _, (Tr.of_grow g').trans t, S', by rw [e1]; exact q⟩) fun _ _ x => x) (hs env)
theorem names_nodup {h₀ : Heap} {env : Env} {T : List Addr} {I : Store} {s : Shared} (S : SIn G h₀ env T I σ s) : (σ.map Prod.fst).Nodup := S.nodup
theorem se_aug {op : Operator} {p' pos : Pos} {e : Expr} {d₀ : D} (m : MemI σ x d₀) (h : PE G k sc (fullR σ) e (Op2K G k (inplaceOp op) d₀ (AsgRS G k sc rest Q σ x))) : SE G k sc σ (.AugAssign (.Name x p') op e pos :: rest) Q := by
  have hm : MemC σ x (.imm d₀) := by
    clear h
    induction m with
    | head x d r => exact .head _ _ _
    | tail p h ih => exact .tail _ ih
  obtain ⟨i, hi⟩ := hm.idx
  refine se_cons fun h₀ A env T I s oa eo S => ?_
  refine s_aug hi (h.mono fun d q A I s v u oa hB hI r₁ r₂ => wpAny_mono (q A I s v u oa hB hI r₁ r₂) (fun v s' ⟨J, d, g, r, sd, c0, σ', u, q⟩ => ⟨J, d, g, r, sd, ?_⟩) fun _ _ x => x) h₀ A env T I s oa eo S
  obtain ⟨j, hj, e1⟩ := u.idx
  cases one_cell S.nodup hi hj
  rw [e1]; exact q
theorem se_app {px ap cp pos : Pos} {e : Expr} (m : MemC σ x (.own l)) (hl : l.length ≤ 100000) (hp : (ap.endLine == cp.line) = true) (he : ∀ env, starEach [e] env = [(false, eval e env)]) (h : PE G k sc (immR σ) e (AppR G k sc rest Q σ x l)) :
    SE G k sc σ (.Expr (.Call (.Attribute (.Name x px) "append" ap) [e] [] cp) pos :: rest) Q := by
  obtain ⟨i, hi⟩ := m.idx
  refine se_cons fun h₀ A env T I s oa eo S => s_append hi hl (h.mono fun d ⟨c0, σ', u, q⟩ => ?_) hp he h₀ A env T I s oa eo S
  obtain ⟨j, hj, e1⟩ := u.idx
  cases one_cell S.nodup hi hj
  rw [e1]; exact q
theorem se_own {p' p pos : Pos} {es : List Expr} (m : MemC σ x c0) (hs : ∀ env, swapsWith (.List es p) (some (.Name x p')) pos.line env = pure false) (h : PL G k sc (immR σ) es (OwnL G k sc rest Q σ x)) : SE G k sc σ (.Assign [.Name x p'] (.List es p) pos :: rest) Q := by
  obtain ⟨i, hi⟩ := m.idx
  refine se_cons fun h₀ A env T I s oa eo S => s_own hi (fun A env I s pos oa eo N => wpAny_mono (h A env I s pos oa eo N) (fun vs s' ⟨J, ds, g, r, hl, c0, σ', u, q⟩ => ⟨J, ds, g, r, hl, ?_⟩) fun _ _ x => x) hs h₀ A env T I s oa eo S
  obtain ⟨j, hj, e1⟩ := u.idx
  cases one_cell S.nodup hi hj
  rw [e1]; exact q
theorem se_set {y : Str} {px py sp pos : Pos} {e : Expr} {j : Int} (m : MemC σ x (.own l)) (hy : MemI σ y (.int j)) (hj : 0 ≤ j ∧ j.toNat < l.length ∧ j < 2 ^ 63) (hs : ∀ env, swapsWith e (some (.Subscript (.Name x px) (.Name y py) sp)) pos.line env = pure false)
    (h : PE G k sc (immR σ) e (SetR G k sc rest Q σ x l j)) : SE G k sc σ (.Assign [.Subscript (.Name x px) (.Name y py) sp] e pos :: rest) Q := by
  obtain ⟨i, hi⟩ := m.idx
  refine se_cons fun h₀ A env T I s oa eo S => s_setitem hi (mem_I hy) hj (h.mono fun d ⟨c0, σ', u, q⟩ => ?_) hs h₀ A env T I s oa eo S
  obtain ⟨j', hj', e1⟩ := u.idx
  cases one_cell S.nodup hi hj'
  rw [e1]; exact q
theorem se_if {t : Expr} {a b : List Stmt} {p : Pos} (h : TE G k sc (fullR σ) t (BrK G k sc σ a b (SeqK G k sc rest Q))) : SE G k sc σ (.If t a b p :: rest) Q := se_cons (s_if h)
theorem se_ret {e : Expr} {p : Pos} (h : PE G k sc (fullR σ) e (RetK Q)) : SE G k sc σ (.Return (some e) p :: rest) Q := se_cons (s_return h)
theorem se_for {t iter : Expr} {a b : List Stmt} {p : Pos} (hs : ∀ x env, foldedSetIterable iter env x = pure x) (h : IE G k sc (immR σ) iter (ForQ G k sc t a b (SeqK G k sc rest Q) σ)) : SE G k sc σ (.For t iter a b p :: rest) Q := se_cons (s_for h hs)
theorem se_nilS (h : SE G k sc σ rest Q) : SE G k sc σ [] (SeqK G k sc rest Q) := se_nil h
end

/-! ### the program's functions, out of the heap that the head has written -/
noncomputable def fnIn (K : Frag) (a : Addr) : Option FuncData := match List.lookup a K with
  | some ⟨_, _, .func fd, _⟩ => some fd
  | _ => none
noncomputable def bodyIn (K : Frag) (a : Addr) : List Stmt := match fnIn K a with
  | some fd => (match fd.body with | .stmts b => b | _ => [])
  | none => []
noncomputable def scopeIn (K : Frag) (a : Addr) : Scope := match fnIn K a with
  | some fd => fd.scope
  | none => { kind := .function, names := [], isGenerator := false, isCoroutine := false }

-- C19
set_option maxRecDepth 100000
noncomputable abbrev KP (G : Gd) : Frag := hd.heap_39 G.w.params
/-- the names that the defs read, and the written heap -/
structure GOK (G : Gd) : Prop where
  K : ∀ h, G.B h → (KP G).In h
  gl : ∀ p : Str × Value, p ∈ ([(("quotedata" : Str), (Value.ref 48 : Value)), (("pretty_flags" : Str), (Value.ref 56 : Value)), (("_parse_varint" : Str), (Value.ref 63 : Value)), (("_substitution_cost" : Str), (Value.ref 70 : Value)), (("_levenshtein_distance" : Str), (Value.ref 77 : Value)), (("_law_word" : Str), (Value.ref 84 : Value)), (("_law_read" : Str), (Value.ref 89 : Value)), (("_law_game" : Str), (Value.ref 96 : Value)), (("_law_sent" : Str), (Value.ref 101 : Value)), (("_law_played" : Str), (Value.ref 108 : Value)), (("_law_triples" : Str), (Value.ref 115 : Value)), (("_law_turned" : Str), (Value.ref 122 : Value)), (("_law_rounds" : Str), (Value.ref 127 : Value)), (("_twin_re_1" : Str), (Value.ref 36 : Value)), (("_twin_re_2" : Str), (Value.ref 41 : Value)), (("COMPILER_FLAG_NAMES" : Str), (Value.ref 49 : Value)), (("CRLF" : Str), (Value.str "\r\n" 342 : Value)), (("_MAX_STRING_SIZE" : Str), (Value.int 40 405 : Value)), (("_MOVE_COST" : Str), (Value.int 2 407 : Value)), (("_CASE_COST" : Str), (Value.int 1 409 : Value)), (("range" : Str), (Value.type "range" : Value)), (("len" : Str), (Value.builtin "len" : Value)), (("str" : Str), (Value.type "str" : Value)), (("hex" : Str), (Value.builtin "hex" : Value)), (("iter" : Str), (Value.builtin "iter" : Value)), (("next" : Str), (Value.builtin "next" : Value)), (("sum" : Str), (Value.builtin "sum" : Value)), (("min" : Str), (Value.builtin "min" : Value)), (("list" : Str), (Value.type "list" : Value)), (("sorted" : Str), (Value.builtin "sorted" : Value)), (("abs" : Str), (Value.builtin "abs" : Value)), (("isinstance" : Str), (Value.builtin "isinstance" : Value)), (("zip" : Str), (Value.type "zip" : Value)), (("int" : Str), (Value.type "int" : Value)), (("bool" : Str), (Value.type "bool" : Value)), (("StopIteration" : Str), (Value.type "StopIteration" : Value))] : List (Str × Value)) → p ∈ G.gl

/-- the def at an address of the written heap -/
noncomputable def fdIn (K : Frag) (a : Addr) : FuncData := (fnIn K a).getD default
noncomputable def fnOk (K : Frag) (a : Addr) : Bool := match fnIn K a with
  | some fd => codeIn K fd.code fd.qualname && (match fd.body with | .stmts _ => true | _ => false) && decide (fd.globals = mainGlobals) && fd.closure.isEmpty && decide (fd.builtins = builtinsNs)
  | none => false
theorem fnIn_at {K : Frag} {a : Addr} {fd : FuncData} (e : fnIn K a = some fd) : ∃ o, List.lookup a K = some o ∧ o.data = .func fd := by
  unfold fnIn at e
  split at e
  · rename_i hq
    cases e
    exact ⟨_, hq, rfl⟩
  · cases e
theorem fn_of {G : Gd} (hG : GOK G) (a : Addr) (params : List Str) (hk : fnOk (KP G) a = true)
    (hbind : ∀ vs : List Value, vs.length = params.length → bindArgs (fdIn (KP G) a) ⟨vs, []⟩ = pure (params.zip vs)) : FnAt G a (scopeIn (KP G) a) (bodyIn (KP G) a) params := by
  unfold fdIn at hbind
  unfold fnOk at hk
  unfold scopeIn bodyIn
  cases e : fnIn (KP G) a with
  | none => rw [e] at hk; cases hk
  | some fd =>
    rw [e] at hk hbind
    obtain ⟨o, ho, hd⟩ := fnIn_at e
    simp only [Bool.and_eq_true, decide_eq_true_eq, List.isEmpty_iff] at hk
    obtain ⟨⟨⟨⟨h1, h2⟩, h3⟩, h4⟩, h5⟩ := hk
    refine ⟨fun h hB => ⟨o, fd, hG.K h hB a o ho, hd, codeRec_of (hG.K h hB) h1, rfl, ?_, h3, h4, h5, hbind⟩⟩
    dsimp only
    cases hb : fd.body with
    | stmts b => rfl
    | expr b => rw [hb] at h2; cases h2
theorem hf_of {G : Gd} (hG : GOK G) {a : Addr} (hk : (fnIn (KP G) a).isSome = true) : ∀ h, G.B h → ∃ o fd, h.get? a = some o ∧ o.data = .func fd := fun h hB => by
  obtain ⟨fd, e⟩ := Option.isSome_iff_exists.mp hk
  obtain ⟨o, ho, hd⟩ := fnIn_at e
  exact ⟨o, fd, hG.K h hB a o ho, hd⟩
theorem all0 {P : List Value → Prop} (h : P []) : ∀ vs, vs.length = 0 → P vs := fun vs e => by rw [List.length_eq_zero_iff.mp e]; exact h
theorem all1 {P : List Value → Prop} (h : ∀ v, P [v]) : ∀ vs, vs.length = 1 → P vs := fun vs e => by obtain ⟨v, rfl⟩ := List.length_eq_one_iff.mp e; exact h v
theorem all2 {P : List Value → Prop} (h : ∀ v u, P [v, u]) : ∀ vs, vs.length = 2 → P vs := fun vs e => by
  cases vs with
  | nil => cases e
  | cons v r => exact all1 (P := fun r => P (v :: r)) (h v) r (Nat.succ.inj e)
theorem all3 {P : List Value → Prop} (h : ∀ v u x, P [v, u, x]) : ∀ vs, vs.length = 3 → P vs := fun vs e => by
  cases vs with
  | nil => cases e
  | cons v r => exact all2 (P := fun r => P (v :: r)) (h v) r (Nat.succ.inj e)

noncomputable abbrev FN (G : Gd) (a : Addr) (params : List Str) : Prop := FnAt G a (scopeIn (KP G) a) (bodyIn (KP G) a) params
section
variable {G : Gd} (hG : GOK G)
include hG
theorem F48 : FN G 48 ["data"] := fn_of hG 48 ["data"] (by kernel_rfl) (all1 (fun _ => rfl))
theorem F56 : FN G 56 ["flags"] := fn_of hG 56 ["flags"] (by kernel_rfl) (all1 (fun _ => rfl))
theorem F63 : FN G 63 ["iterator"] := fn_of hG 63 ["iterator"] (by kernel_rfl) (all1 (fun _ => rfl))
theorem F70 : FN G 70 ["ch_a", "ch_b"] := fn_of hG 70 ["ch_a", "ch_b"] (by kernel_rfl) (all2 (fun _ _ => rfl))
theorem F77 : FN G 77 ["a", "b", "max_cost"] := fn_of hG 77 ["a", "b", "max_cost"] (by kernel_rfl) (all3 (fun _ _ _ => rfl))
theorem F84 : FN G 84 ["place"] := fn_of hG 84 ["place"] (by kernel_rfl) (all1 (fun _ => rfl))
theorem F89 : FN G 89 ["number", "torn"] := fn_of hG 89 ["number", "torn"] (by kernel_rfl) (all2 (fun _ _ => rfl))
theorem F96 : FN G 96 ["i", "j"] := fn_of hG 96 ["i", "j"] (by kernel_rfl) (all2 (fun _ _ => rfl))
theorem F101 : FN G 101 ["rows", "bare", "turn"] := fn_of hG 101 ["rows", "bare", "turn"] (by kernel_rfl) (all3 (fun _ _ _ => rfl))
theorem F108 : FN G 108 ["rows", "words", "shift"] := fn_of hG 108 ["rows", "words", "shift"] (by kernel_rfl) (all3 (fun _ _ _ => rfl))
theorem F115 : FN G 115 [] := fn_of hG 115 [] (by kernel_rfl) (all0 (rfl))
theorem F122 : FN G 122 ["number"] := fn_of hG 122 ["number"] (by kernel_rfl) (all1 (fun _ => rfl))
theorem F127 : FN G 127 ["wins"] := fn_of hG 127 ["wins"] (by kernel_rfl) (all1 (fun _ => rfl))
theorem F132 : FN G 132 ["script"] := fn_of hG 132 ["script"] (by kernel_rfl) (all1 (fun _ => rfl))
end

/-- what a name may be called as -/
inductive Callee (G : Gd) : Value → Prop
  | builtin (id) : Callee G (.builtin id)
  | type (id) : Callee G (.type id)
  | func {a : Addr} (h : ∀ h, G.B h → ∃ o fd, h.get? a = some o ∧ o.data = .func fd) : Callee G (.ref a)
theorem pe_callv {G : Gd} {k : Nat} {sc : Scope} {ρ : List (Str × D)} {Q : D → Prop} {f : Str} {fp pos : Pos} {v : Value} {args : List Expr} (hx : (f, v) ∈ G.gl) (hk : sc.names.lookup f = some .globalImplicit) (hc : Callee G v)
    (hp : ∀ env pos, (backTo pos (starEach args env)).any (·.1) = false) (h : PL G k sc ρ args (OpLK G k (fun vs => call v vs) Q)) : PE G k sc ρ (.Call (.Name f fp) args [] pos) Q := by
  cases hc with
  | builtin id => exact pe_builtin hx hk h hp
  | type id => exact pe_type hx hk h hp
  | func hf => exact pe_call hx hk hf h hp

theorem mulL {a b : Int} (h : a.natAbs < 2 ^ 64) : IntMulOk a b := by
  refine IntMulOk.of_left ?_
  unfold Builtin.Int.intBits
  split
  · omega
  · have : a.natAbs.log2 < 64 := (Nat.log2_lt (by simp at *; omega)).mpr h
    omega
theorem mulR {a b : Int} (h : b.natAbs < 2 ^ 64) : IntMulOk a b := by
  refine IntMulOk.of_right ?_
  unfold Builtin.Int.intBits
  split
  · omega
  · have : b.natAbs.log2 < 64 := (Nat.log2_lt (by simp at *; omega)).mpr h
    omega

-- C20
set_option maxRecDepth 100000
theorem ifB {c : Bool} {P R : Prop} (h1 : c = true → P) (h2 : c = false → R) : if c = true then P else R := by
  cases c with
  | true => exact h1 rfl
  | false => exact h2 rfl

theorem ifT {c : Bool} {P R : Prop} (h : c = true) (p : P) : if c = true then P else R := by subst h; exact p
theorem ifF {c : Bool} {P R : Prop} (h : c = false) (r : R) : if c = true then P else R := by subst h; exact r

local macro_rules | `(tactic| walk_at "m upd") => `(tactic| ((with_reducible repeat (first | exact UpdR.head _ _ _ _ | apply UpdR.tail | exact MemI.head _ _ _ | apply MemI.tail | exact MemF.head _ _ _ | exact MemF.own _ _ _ | apply MemF.tail | exact MemC.head _ _ _ | apply MemC.tail | exact UpdF.head _ _ _ | apply UpdF.tail)); done))
local macro_rules | `(tactic| walk_at "m mem") => `(tactic| first
  | (with_reducible exact List.mem_cons_self)
  | ((with_reducible first | apply mem_I | apply mem_F); walk_at "m upd")
  | ((with_reducible apply mem_capt ?h ?k1 ?k2); (case k1 => kernel_rfl); (case k2 => kernel_rfl); (case h => walk_at "m mem"))
  | ((with_reducible apply mem_app_l); walk_at "m mem")
  | ((with_reducible first | apply mem_app_r | apply List.mem_cons_of_mem); walk_at "m mem"))
local macro_rules | `(tactic| walk_at "m gl") => `(tactic| ((apply GOK.gl (by assumption)); (with_reducible repeat (first | exact List.mem_cons_self | apply List.mem_cons_of_mem)); done))
local macro_rules | `(tactic| walk_at "m pe") => `(tactic| first
  | (with_reducible first | refine pe_int ?_ | refine pe_str ?_ | refine pe_binop ?_ | refine pe_ifexp ?_ | refine pe_list ?_ | refine pe_tuple ?_ | refine pl_nil ?_ | refine pe_slice ?_ | refine pe_subscript ?_ | refine te_not ?_ | refine te_and ?_ | refine te_or_nil ?_ | refine te_or ?_ | refine op_add ?_ | refine op_sub ?_ | refine op_and ?_ | refine op_eq ?_ | refine op_lt ?_ | refine op_gt ?_ | refine op_eq_str ?_ | refine ob_int ?_)
  | ((with_reducible refine' stR ?u ?_); (case u => walk_at "m upd"))
  | ((with_reducible refine' pe_glob ?m ?k ?r ?_); (case k => kernel_rfl); (case m => walk_at "m gl"); (case r => first | exact fun _ => rep_int.mpr ⟨_, rfl⟩ | exact fun _ => rep_str.mpr ⟨_, rfl⟩ | exact fun _ => rep_val.mpr rfl))
  | ((with_reducible refine' pe_name ?m ?_); case m => walk_at "m mem")
  | ((with_reducible first | refine pe_compare ?_ ?m | refine te_compare ?_ ?m); case m => with_unfolding_all rfl)
  | ((with_reducible refine' pe_callv ?m ?k ?f ?p ?_); (case m => walk_at "m gl"); (case k => kernel_rfl); (case f => first | exact .builtin _ | exact .type _ | exact .func (hf_of (by assumption) (by kernel_rfl))); (case p => intro _ _; rfl))
  | ((with_reducible refine pl_cons ?_ ?m); case m => (intro _; rfl))
  | ((with_reducible refine op_mul ?m ?_); case m => first | exact mulL (by decide) | exact mulR (by decide) | exact mulL (by omega) | exact mulR (by omega))
  | ((with_reducible first | refine op_floordiv ?m ?_ | refine op_mod ?m ?_); case m => first | decide | omega)
  | ((with_reducible refine te_plain ?_ ?m); (case m => intro _ _; rfl)))
local macro_rules | `(tactic| walk_at "m as0") => `(tactic| ((with_reducible refine' se_asg ?s ?_); (case s => intro _; rfl)))

section
variable {G : Gd} (hG : GOK G)
include hG

noncomputable def gameP (i j : Int) : Int := (i * (9 - i)).fdiv 2 + j - i - 1
theorem spec_game {i j : Int} (hi : 0 ≤ i ∧ i ≤ 10) {Q : D → Prop} (hQ : Q (.int (gameP i j))) : OpL G 1 (fun vs => call (.ref 96) vs) [.int i, .int j] Q := by
  refine fn_spec (others := []) (F96 hG) (by kernel_rfl) rfl ?_
  conv => arg 5; whnf
  refine se_cons (s_return ?_)
  simp only [sto0, List.zip_cons_cons, List.zip_nil_right, List.map_cons, List.map_nil, List.append_nil]
  (repeat (walk_at "m pe"))
  exact hQ
end

-- C21
set_option maxRecDepth 100000
theorem fmodN (n m : Nat) : ((n : Int).fmod (m : Int)) = ((n % m : Nat) : Int) := by rw [Int.fmod_eq_emod_of_nonneg _ (Int.natCast_nonneg _)]; rfl
theorem fdivN (n m : Nat) : ((n : Int).fdiv (m : Int)) = ((n / m : Nat) : Int) := by rw [Int.fdiv_eq_ediv_of_nonneg _ (Int.natCast_nonneg _)]; rfl

section
variable {G : Gd} (hG : GOK G)
include hG

omit hG in
theorem ixN {k m : Nat} (h : k < m) (hm : m ≤ 1000000 := by decide) : 0 ≤ (k : Int) ∧ (k : Int) < 2 ^ 63 := by omega
noncomputable def wordNames : List Str := ["OPTIMIZED", "NEWLOCALS", "VARARGS", "VARKEYWORDS", "NESTED", "GENERATOR", "NOFREE", "COROUTINE", "ITERABLE_COROUTINE", "ASYNC_GENERATOR"]
noncomputable def wordP (n : Nat) : Str := match wordNames[n]? with
  | some x => x
  | none => ("0x" : Str) ++ ⟨#[("1248" : Str).cps.getD (n % 4) 0]⟩ ++ Txt.mul "0" (n / 4 : Nat)
omit hG in
theorem word_at {n : Nat} (h : n < 10) : (wordNames.map D.str)[n]? = some (.str (wordP n)) := by
  have e : wordNames[n]? = some wordNames[n] := List.getElem?_eq_getElem h
  unfold wordP
  rw [List.getElem?_map, e]; rfl
theorem spec_word {n : Nat} (hn : n < 41) {Q : D → Prop} (hQ : Q (.str (wordP n))) : OpL G 1 (fun vs => call (.ref 84) vs) [.int n] Q := by
  refine fn_spec (others := ["names"]) (F84 hG) (by kernel_rfl) rfl ?_
  ((conv => arg 5; whnf); dsimp only [sto0, List.zip, List.zipWith, List.map, List.cons_append, List.nil_append])
  ((walk_at "m as0"; (repeat (walk_at "m pe"))))
  refine ⟨by decide, ?_⟩
  (first | (refine seId ?_) | (refine stR (by walk_at "m upd") ?_))
  ((refine se_if ?_; (repeat (walk_at "m pe"))))
  ((refine ⟨_, rfl, ifB ?_ ?_⟩))
  · intro hc
    have hc : n < 10 := Int.ofNat_lt.mp (of_decide_eq_true hc)
    ((refine se_ret ?_; (repeat (walk_at "m pe"))))
    refine op_item_list (d := .str (wordP n)) (ixN hc) ?_ hQ
    rw [Int.toNat_natCast]
    exact word_at hc
  · intro hc
    have hc : ¬ n < 10 := fun h => of_decide_eq_false hc (Int.ofNat_lt.mpr h)
    have hm : n % 4 < 4 := Nat.mod_lt _ (by decide)
    have hd : n / 4 < 11 := Nat.div_lt_of_lt_mul (Nat.lt_of_lt_of_le hn (by decide))
    (first | (refine se_nilS ?_) | (refine se_nil (seId ?_)))
    ((refine se_ret ?_; (repeat (walk_at "m pe"))))
    have e1 : ((n : Int).fmod 4) = ((n % 4 : Nat) : Int) := fmodN n 4
    have e2 : ((n : Int).fdiv 4) = ((n / 4 : Nat) : Int) := fdivN n 4
    have e3 : ("1248" : Str).cps.size = 4 := by kernel_rfl
    rw [e1]
    refine op_item_str ⟨(ixN hm).1, by rw [e3]; exact hm, (ixN hm).2⟩ ?_
    have l1 : ("0x" : Str).length = 2 := by kernel_rfl
    have l2 : ∀ c : Nat, (⟨#[c]⟩ : Str).length = 1 := fun _ => rfl
    have l3 : ∀ m < 11, (Txt.mul "0" ((m : Nat) : Int)).length ≤ 10 := by decide +kernel
    refine op_add_str (by rw [l1, l2]; decide) ?_
    (repeat (walk_at "m pe"))
    rw [e2]
    refine op_mul_str (Int.le_trans (Int.ofNat_le.mpr (Nat.le_of_lt hd)) (by decide)) (Int.le_trans (by decide) (ixN hd).1) (by decide +kernel) ?_
    refine op_add_str (by rw [Str.length_append, l1, l2]; exact Nat.le_trans (Nat.add_le_add_left (l3 _ hd) _) (by decide)) ?_
    show Q _
    have e : wordP n = ("0x" : Str) ++ ⟨#[("1248" : Str).cps.getD (n % 4) 0]⟩ ++ Txt.mul "0" (n / 4 : Nat) := by
      have : wordNames[n]? = none := List.getElem?_eq_none (Nat.le_of_not_lt hc)
      unfold wordP
      rw [this]
    rw [e] at hQ
    exact hQ
end

-- E1
set_option maxRecDepth 100000
section
open PySem.Sre

noncomputable def code1 : Array Nat := #[14, 4, 0, 1, 1, 6, 1, 16, 46, 1]
noncomputable def code2 : Array Nat := #[14, 9, 4, 1, 2, 16, 10, 16, 13, 0, 7, 7, 16, 13, 16, 10, 15, 18, 5, 16, 10, 15, 13, 11, 16, 13, 5, 5, 0, 16, 10, 1, 15, 2, 0, 1]

theorem runFor_done {m : M} (h : m.outcome.isSome = true) : ∀ n, M.runFor n m = m
  | 0 => rfl
  | n + 1 => by rw [M.runFor, if_pos h]
theorem runFor_add : ∀ (a b : Nat) (m : M), M.runFor (a + b) m = M.runFor b (M.runFor a m)
  | 0, b, m => by rw [Nat.zero_add]; rfl
  | a + 1, b, m => by
    rw [Nat.succ_add, M.runFor, M.runFor]
    split
    · rename_i h; rw [runFor_done h]
    · exact runFor_add a b _

/-- m comes to m' in at most n steps -/
noncomputable def Goes (n : Nat) (m m' : M) : Prop := ∃ k, k ≤ n ∧ M.runFor k m = m'
theorem Goes.trans {a b : Nat} {m m₁ m₂ : M} (h : Goes a m m₁) (g : Goes b m₁ m₂) : Goes (a + b) m m₂ := by
  obtain ⟨i, hi, rfl⟩ := h
  obtain ⟨j, hj, rfl⟩ := g
  exact ⟨i + j, by omega, runFor_add i j m⟩
theorem Goes.one {m m' : M} (h : m.outcome = none) (e : m.step = m') : Goes 1 m m' := ⟨1, Nat.le_refl _, by rw [M.runFor, h]; simp [M.runFor, e]⟩
theorem Goes.le {a b : Nat} {m m' : M} (h : Goes a m m') (hab : a ≤ b) : Goes b m m' := let ⟨k, hk, e⟩ := h; ⟨k, Nat.le_trans hk hab, e⟩

/-- the machine of the first pattern, at the start of an attempt at p -/
noncomputable def at1 (t : Array Nat) (p start : Nat) (must outer : Bool) (fo : Bool) (pc hd : Nat) (seen : Sre.Seen) : M :=
  { code := code1, text := t, lim := t.size, start := start, lastStart := t.size, mustAdvance := must, pc := pc, pos := p, handed := hd, outermost := outer, marks := #[],
    frames := [{ wait := .nextStart, pc := 5, pos := start, outermost := fo }], weight := 1, seen := seen }

theorem s1_at (t : Array Nat) (p : Nat) (must outer fo : Bool) (seen : Sre.Seen) : (at1 t p p must outer fo 5 p seen).step =
    if (p == 0 || t.getD (p - 1) 0 == 10) = true then at1 t p p must outer fo 7 p ((seen.add 6).add 44) else { at1 t p p must outer fo 5 p ((seen.add 6).add 44) with answer := some false } := by
  rfl
theorem s1_lit_end (t : Array Nat) (p : Nat) (must outer fo : Bool) (seen : Sre.Seen) (h : p ≥ t.size) : (at1 t p p must outer fo 7 p seen).step = { at1 t p p must outer fo 7 p (seen.add 16) with answer := some false } := by
  show (if p ≥ t.size then _ else _) = _
  rw [if_pos h]; rfl
theorem s1_lit (t : Array Nat) (p : Nat) (must outer fo : Bool) (seen : Sre.Seen) (h : p < t.size) : (at1 t p p must outer fo 7 p seen).step = 
    if (t.getD p 0 == 46) = true then at1 t (p + 1) p must outer fo 9 p (seen.add 16) else { at1 t p p must outer fo 7 p (seen.add 16) with answer := some false } := by
  show (if p ≥ t.size then _ else _) = _
  rw [if_neg (by omega)]
  show (match (Except.ok (t.getD p 0 == 46, seen.add 16) : Except String (Bool × Sre.Seen)) with | .error why => _ | .ok (false, seen) => _ | .ok (true, seen) => _) = _
  cases t.getD p 0 == 46 <;> rfl
theorem s1_succ (t : Array Nat) (p : Nat) (must outer fo : Bool) (seen : Sre.Seen) : (at1 t (p + 1) p must outer fo 9 p seen).step = { at1 t (p + 1) p must outer fo 9 (p + 1) (seen.add 1) with answer := some true } := by
  show (if (outer && ((false && _) || (must && (p + 1 == p)))) = true then _ else _) = _
  have : (p + 1 == p) = false := by simp
  rw [this, Bool.and_false, Bool.false_and, Bool.or_false, Bool.and_false]
  rfl
theorem s1_fail (t : Array Nat) (p' p pc hd : Nat) (must outer fo : Bool) (seen : Sre.Seen) : ({ at1 t p' p must outer fo pc hd seen with answer := some false } : M).step =
    if p < t.size then at1 t (p + 1) (p + 1) false false false 5 (p + 1) seen else { at1 t p p must fo fo 5 hd seen with frames := [], weight := 0, answer := some false } := by
  rfl

noncomputable def hit1 (t : Array Nat) (p : Nat) : Bool := (p == 0 || t.getD (p - 1) 0 == 10) && decide (p < t.size) && t.getD p 0 == 46
noncomputable def find1 (t : Array Nat) : Nat → Nat → Option Nat
  | 0, _ => none
  | f + 1, p => if hit1 t p then some p else if p < t.size then find1 t f (p + 1) else none

noncomputable def Ends (n : Nat) (m : M) : Option (Nat × Nat) → Prop
  | some (p, e) => ∃ m', Goes n m m' ∧ m'.outcome = some .matched ∧ m'.start = p ∧ m'.handed = e
  | none => ∃ m', Goes n m m' ∧ m'.outcome = some .failed
theorem Ends.of {a b : Nat} {m m₁ : M} {r : Option (Nat × Nat)} (g : Goes a m m₁) (h : Ends b m₁ r) : Ends (a + b) m r := by
  cases r with
  | none => obtain ⟨m', k, e⟩ := h; exact ⟨m', g.trans k, e⟩
  | some q => obtain ⟨p, e⟩ := q; obtain ⟨m', k, e⟩ := h; exact ⟨m', g.trans k, e⟩
theorem Ends.le {a b : Nat} {m : M} {r : Option (Nat × Nat)} (h : Ends a m r) (hab : a ≤ b) : Ends b m r := by
  cases r with
  | none => obtain ⟨m', k, e⟩ := h; exact ⟨m', k.le hab, e⟩
  | some q => obtain ⟨p, e⟩ := q; obtain ⟨m', k, e⟩ := h; exact ⟨m', k.le hab, e⟩

theorem search1 (t : Array Nat) : ∀ (f p : Nat) (must outer fo : Bool) (seen : Sre.Seen), f = t.size - p → p ≤ t.size → Ends (5 * f + 6) (at1 t p p must outer fo 5 p seen) ((find1 t (f + 1) p).map fun q => (q, q + 1)) := by
  intro f
  induction f with
  | zero =>
    intro p must outer fo seen hf hp
    have hp' : p = t.size := by omega
    have e : find1 t 1 p = none := by
      unfold find1 hit1
      rw [decide_eq_false (by omega), Bool.and_false, Bool.false_and]
      simp [find1]
    rw [e]
    have last : ∀ pc seen, Ends 2 { at1 t p p must outer fo pc p seen with answer := some false } none := fun pc seen => by
      refine Ends.of (a := 1) (b := 1) (Goes.one rfl ((s1_fail t p p pc p must outer fo seen).trans (if_neg (by omega)))) ?_
      exact ⟨M.runFor 1 _, ⟨1, Nat.le_refl _, rfl⟩, rfl⟩
    by_cases hb : (p == 0 || t.getD (p - 1) 0 == 10) = true
    · have h1 : Goes 1 (at1 t p p must outer fo 5 p seen) _ := Goes.one rfl (by rw [s1_at, if_pos hb])
      have h2 := Goes.one (m := at1 t p p must outer fo 7 p ((seen.add 6).add 44)) rfl (s1_lit_end t p must outer fo _ (by omega))
      exact (Ends.of h1 (Ends.of h2 (last _ _))).le (by omega)
    · have h1 : Goes 1 (at1 t p p must outer fo 5 p seen) _ := Goes.one rfl (by rw [s1_at, if_neg hb])
      exact (Ends.of h1 (last _ _)).le (by omega)
  | succ f ih =>
    intro p must outer fo seen hf hp
    have hlt : p < t.size := by omega
    have again : ∀ pc seen, Ends (5 * f + 7) { at1 t p p must outer fo pc p seen with answer := some false } ((find1 t (f + 1) (p + 1)).map fun q => (q, q + 1)) := fun pc seen =>
      (Ends.of (a := 1) (Goes.one rfl ((s1_fail t p p pc p must outer fo seen).trans (if_pos hlt))) (ih (p + 1) false false false _ (by omega) hlt)).le (by omega)
    by_cases hb : (p == 0 || t.getD (p - 1) 0 == 10) = true
    · have h1 : Goes 1 (at1 t p p must outer fo 5 p seen) _ := Goes.one rfl (by rw [s1_at, if_pos hb])
      by_cases hc : (t.getD p 0 == 46) = true
      · have e : find1 t (f + 1 + 1) p = some p := by
          rw [find1]; unfold hit1
          rw [hb, hc, decide_eq_true hlt]; rfl
        rw [e]
        have h2 : Goes 1 (at1 t p p must outer fo 7 p ((seen.add 6).add 44)) _ := Goes.one rfl (by rw [s1_lit _ _ _ _ _ _ hlt, if_pos hc])
        have h3 := Goes.one (m := at1 t (p + 1) p must outer fo 9 p (((seen.add 6).add 44).add 16)) rfl (s1_succ t p must outer fo _)
        have h4 : Ends 2 ({ at1 t (p + 1) p must outer fo 9 (p + 1) ((((seen.add 6).add 44).add 16).add 1) with answer := some true } : M) (some (p, p + 1)) := by
          exact ⟨M.runFor 2 _, ⟨2, Nat.le_refl _, rfl⟩, rfl, rfl, rfl⟩
        exact (Ends.of h1 (Ends.of h2 (Ends.of h3 h4))).le (by omega)
      · have e : find1 t (f + 1 + 1) p = find1 t (f + 1) (p + 1) := by
          rw [find1]; unfold hit1
          rw [hb, Bool.eq_false_iff.mpr hc, Bool.and_false, if_neg (by decide), if_pos hlt]
        rw [e]
        have h2 : Goes 1 (at1 t p p must outer fo 7 p ((seen.add 6).add 44)) _ := Goes.one rfl (by rw [s1_lit _ _ _ _ _ _ hlt, if_neg hc])
        exact (Ends.of h1 (Ends.of h2 (again _ _))).le (by omega)
    · have e : find1 t (f + 1 + 1) p = find1 t (f + 1) (p + 1) := by
        rw [find1]; unfold hit1
        rw [Bool.eq_false_iff.mpr hb, Bool.false_and, Bool.false_and, if_neg (by decide), if_pos hlt]
      rw [e]
      have h1 : Goes 1 (at1 t p p must outer fo 5 p seen) _ := Goes.one rfl (by rw [s1_at, if_neg hb])
      exact (Ends.of h1 (again _ _)).le (by omega)

theorem forSearch1 (t : Array Nat) (s : Nat) (must : Bool) (hs : s ≤ t.size) : Ends (5 * t.size + 7) (forSearch code1 t 0 s t.size must) ((find1 t (t.size - s + 1) s).map fun q => (q, q + 1)) := by
  by_cases h : s < t.size
  · have e : forSearch code1 t 0 s t.size must = at1 t s s must true true 5 s (({} : Sre.Seen).add 14) := by
      have h1 : (decide (s > t.size) || decide (t.size - s < 1)) = false := by
        rw [decide_eq_false (by omega), decide_eq_false (by omega)]; rfl
      show (if (decide (s > t.size) || decide (t.size - s < 1)) = true then _ else _) = _
      rw [h1]; rfl
    rw [e]
    exact (search1 t _ s must true true _ rfl hs).le (by omega)
  · have hs' : s = t.size := by omega
    have e : find1 t (t.size - s + 1) s = none := by
      rw [hs', Nat.sub_self, find1]; unfold hit1
      rw [decide_eq_false (by omega), Bool.and_false, Bool.false_and]
      simp
    rw [e]
    have e2 : (forSearch code1 t 0 s t.size must).answer = some false ∧ (forSearch code1 t 0 s t.size must).frames = [] ∧ (forSearch code1 t 0 s t.size must).outcome = none := by
      have h1 : (decide (s > t.size) || decide (t.size - s < 1)) = true := by
        rw [decide_eq_true (p := t.size - s < 1) (by omega), Bool.or_true]
      have : forSearch code1 t 0 s t.size must = if (decide (s > t.size) || decide (t.size - s < 1)) = true then (_ : M).say false else _ := rfl
      rw [this, if_pos h1]
      exact ⟨rfl, rfl, rfl⟩
    obtain ⟨ea, ef, eo⟩ := e2
    refine Ends.le (a := 1) ⟨_, Goes.one eo rfl, ?_⟩ (by omega)
    unfold M.step
    rw [eo, ea, ef]; rfl
end

-- E2
set_option maxRecDepth 100000
section
open PySem.Sre

noncomputable def S2 (t : Array Nat) (q : Nat) (must : Bool) (pc pos : Nat) (outer : Bool) (hd : Nat) (frames : List Sre.Frame) (weight : Nat) (answer : Option Bool) (seen : Sre.Seen) : M :=
  { code := code2, text := t, lim := t.size, start := q, lastStart := t.size, mustAdvance := must, pc := pc, pos := pos, handed := hd, outermost := outer, marks := #[], frames := frames, weight := weight, answer := answer, seen := seen }
noncomputable def fns (q : Nat) (fo : Bool) : Sre.Frame := { wait := .nextStart, pc := 10, pos := q, outermost := fo }
noncomputable def fnb (q pc : Nat) (outer : Bool) : Sre.Frame := { wait := .nextBranch, pc := pc, pos := q, outermost := outer, kept := { lastmark := -1, lastindex := -1, whole := false, marks := #[] } }
noncomputable def fln (q : Nat) (outer : Bool) : Sre.Frame := { wait := .lookNot, pc := 26, pos := q, outermost := outer, kept := { lastmark := -1, lastindex := -1, whole := false, marks := #[] } }

section
variable (t : Array Nat) (q : Nat) (must outer fo : Bool) (hd : Nat) (seen : Sre.Seen)
theorem s2_branch : (S2 t q must 10 q outer hd [fns q fo] 1 none seen).step = S2 t q must 12 q outer q [fnb q 11 outer, fns q fo] 2 none (seen.add 7) := by rfl
theorem s2_lit_end (pc pos : Nat) (frames : List Sre.Frame) (weight : Nat) (hpc : pc = 12 ∨ pc = 14 ∨ pc = 19 ∨ pc = 24 ∨ pc = 29) (h : pos ≥ t.size) :
    (S2 t q must pc pos outer hd frames weight none seen).step = S2 t q must pc pos outer hd frames weight (some false) (seen.add 16) := by
  rcases hpc with rfl | rfl | rfl | rfl | rfl <;> (show (if pos ≥ t.size then _ else _) = _; rw [if_pos h]; rfl)
theorem s2_lit (pc pos : Nat) (frames : List Sre.Frame) (weight : Nat) (hpc : pc = 12 ∨ pc = 14 ∨ pc = 19 ∨ pc = 24 ∨ pc = 29) (h : pos < t.size) :
    (S2 t q must pc pos outer hd frames weight none seen).step = if (t.getD pos 0 == code2.getD (pc + 1) 0) = true then S2 t q must (pc + 2) (pos + 1) outer hd frames weight none (seen.add 16) else S2 t q must pc pos outer hd frames weight (some false) (seen.add 16) := by
  have h' : ¬ pos ≥ t.size := by omega
  rcases hpc with rfl | rfl | rfl | rfl | rfl
  · show (if pos ≥ t.size then _ else _) = _
    rw [if_neg h']
    show (match (Except.ok (t.getD pos 0 == 13, seen.add 16) : Except String (Bool × Sre.Seen)) with | .error why => _ | .ok (false, seen) => _ | .ok (true, seen) => _) = (if (t.getD pos 0 == 13) = true then _ else _)
    cases t.getD pos 0 == 13 <;> rfl
  · show (if pos ≥ t.size then _ else _) = _
    rw [if_neg h']
    show (match (Except.ok (t.getD pos 0 == 10, seen.add 16) : Except String (Bool × Sre.Seen)) with | .error why => _ | .ok (false, seen) => _ | .ok (true, seen) => _) = (if (t.getD pos 0 == 10) = true then _ else _)
    cases t.getD pos 0 == 10 <;> rfl
  · show (if pos ≥ t.size then _ else _) = _
    rw [if_neg h']
    show (match (Except.ok (t.getD pos 0 == 10, seen.add 16) : Except String (Bool × Sre.Seen)) with | .error why => _ | .ok (false, seen) => _ | .ok (true, seen) => _) = (if (t.getD pos 0 == 10) = true then _ else _)
    cases t.getD pos 0 == 10 <;> rfl
  · show (if pos ≥ t.size then _ else _) = _
    rw [if_neg h']
    show (match (Except.ok (t.getD pos 0 == 13, seen.add 16) : Except String (Bool × Sre.Seen)) with | .error why => _ | .ok (false, seen) => _ | .ok (true, seen) => _) = (if (t.getD pos 0 == 13) = true then _ else _)
    cases t.getD pos 0 == 13 <;> rfl
  · show (if pos ≥ t.size then _ else _) = _
    rw [if_neg h']
    show (match (Except.ok (t.getD pos 0 == 10, seen.add 16) : Except String (Bool × Sre.Seen)) with | .error why => _ | .ok (false, seen) => _ | .ok (true, seen) => _) = (if (t.getD pos 0 == 10) = true then _ else _)
    cases t.getD pos 0 == 10 <;> rfl
theorem s2_jump (pc pos : Nat) (frames : List Sre.Frame) (weight : Nat) (hpc : pc = 16 ∨ pc = 21 ∨ pc = 32) : (S2 t q must pc pos outer hd frames weight none seen).step = S2 t q must 35 pos outer hd frames weight none (seen.add 15) := by
  rcases hpc with rfl | rfl | rfl <;> rfl
theorem s2_succ (pos : Nat) (frames : List Sre.Frame) (weight : Nat) (h : pos ≠ q) : (S2 t q must 35 pos outer hd frames weight none seen).step = S2 t q must 35 pos outer pos frames weight (some true) (seen.add 1) := by
  show (if (outer && ((false && _) || (must && (pos == q)))) = true then _ else _) = _
  have : (pos == q) = false := by simpa using h
  rw [this, Bool.and_false, Bool.false_and, Bool.or_false, Bool.and_false]
  rfl
theorem s2_nb1 (pc pos : Nat) (o : Bool) : (S2 t q must pc pos o hd [fnb q 11 outer, fns q fo] 2 (some false) seen).step = S2 t q must 19 q outer q [fnb q 18 outer, fns q fo] 2 none seen := by rfl
theorem s2_nb2 (pc pos : Nat) (o : Bool) : (S2 t q must pc pos o hd [fnb q 18 outer, fns q fo] 2 (some false) seen).step = S2 t q must 24 q outer q [fnb q 23 outer, fns q fo] 2 none seen := by rfl
theorem s2_assert : (S2 t q must 26 (q + 1) outer hd [fnb q 23 outer, fns q fo] 2 none seen).step = S2 t q must 29 (q + 1) false (q + 1) [fln (q + 1) outer, fnb q 23 outer, fns q fo] 3 none (seen.add 5) := by rfl
theorem s2_ln (pc pos : Nat) (o : Bool) : (S2 t q must pc pos o hd [fln (q + 1) outer, fnb q 23 outer, fns q fo] 3 (some false) seen).step = S2 t q must 32 (q + 1) outer hd [fnb q 23 outer, fns q fo] 2 none seen := by rfl
theorem s2_end (pc pos x : Nat) (o : Bool) : Ends 3 (S2 t q must pc pos o hd [fnb q x outer, fns q fo] 2 (some true) seen) (some (q, hd)) := ⟨M.runFor 3 _, ⟨3, Nat.le_refl _, rfl⟩, rfl, rfl, rfl⟩

noncomputable def eolEnd (t : Array Nat) (q : Nat) : Nat := if (t.getD q 0 == 13 && decide (q + 1 < t.size) && t.getD (q + 1) 0 == 10) = true then q + 2 else q + 1
noncomputable def eolAt (t : Array Nat) (q : Nat) : Bool := t.getD q 0 == 10 || t.getD q 0 == 13

theorem s2_attempt (hq : q < t.size) (h : eolAt t q = true) : Ends 30 (S2 t q must 10 q outer hd [fns q fo] 1 none seen) (some (q, eolEnd t q)) := by
  have tail : ∀ pos x hd seen, pos ≠ q → Ends 4 (S2 t q must 35 pos outer hd [fnb q x outer, fns q fo] 2 none seen) (some (q, pos)) := fun pos x hd seen hp =>
    Ends.of (a := 1) (b := 3) (Goes.one rfl (s2_succ t q must outer hd seen pos _ 2 hp)) (s2_end t q must outer fo pos _ 35 pos x outer)
  refine Ends.le (a := 1 + 29) (Ends.of (Goes.one rfl (s2_branch t q must outer fo hd seen)) ?_) (Nat.le_refl _)
  by_cases h13 : (t.getD q 0 == 13) = true
  · -- a carriage return
    have g1 := Goes.one (m := S2 t q must 12 q outer q [fnb q 11 outer, fns q fo] 2 none (seen.add 7)) rfl ((s2_lit t q must outer q (seen.add 7) 12 q _ 2 (by omega) hq).trans (if_pos h13))
    refine Ends.le (a := 1 + 28) (Ends.of g1 ?_) (Nat.le_refl _)
    by_cases h10 : (decide (q + 1 < t.size) && t.getD (q + 1) 0 == 10) = true
    · simp only [Bool.and_eq_true, decide_eq_true_eq] at h10
      have e : eolEnd t q = q + 1 + 1 := by unfold eolEnd; rw [h13, decide_eq_true h10.1, h10.2]; rfl
      rw [e]
      have g2 := Goes.one (m := S2 t q must 14 (q + 1) outer q [fnb q 11 outer, fns q fo] 2 none ((seen.add 7).add 16)) rfl ((s2_lit t q must outer q _ 14 (q + 1) _ 2 (by omega) h10.1).trans (if_pos h10.2))
      have g3 := Goes.one (m := S2 t q must 16 (q + 1 + 1) outer q [fnb q 11 outer, fns q fo] 2 none (((seen.add 7).add 16).add 16)) rfl (s2_jump t q must outer q _ 16 (q + 1 + 1) _ 2 (by omega))
      exact (Ends.of g2 (Ends.of g3 (tail _ 11 _ _ (by omega)))).le (by omega)
    · have e : eolEnd t q = q + 1 := by unfold eolEnd; rw [Bool.and_assoc, Bool.eq_false_iff.mpr h10, Bool.and_false]; rfl
      rw [e]
      have g2 : Goes 1 (S2 t q must 14 (q + 1) outer q [fnb q 11 outer, fns q fo] 2 none ((seen.add 7).add 16)) (S2 t q must 14 (q + 1) outer q [fnb q 11 outer, fns q fo] 2 (some false) (((seen.add 7).add 16).add 16)) := by
        by_cases hs : q + 1 < t.size
        · have hx : ¬ (t.getD (q + 1) 0 == 10) = true := fun hx => h10 (by rw [decide_eq_true hs, hx]; rfl)
          exact Goes.one rfl ((s2_lit t q must outer q _ 14 (q + 1) _ 2 (by omega) hs).trans (if_neg hx))
        · exact Goes.one rfl (s2_lit_end t q must outer q _ 14 (q + 1) _ 2 (by omega) (by omega))
      have g3 := Goes.one rfl (s2_nb1 t q must outer fo q (((seen.add 7).add 16).add 16) 14 (q + 1) outer)
      have n10 : ¬ (t.getD q 0 == code2.getD (19 + 1) 0) = true := fun hx => by
        have h1 : t.getD q 0 = 13 := by simpa using h13
        rw [h1] at hx
        revert hx; decide
      have g4 := Goes.one (m := S2 t q must 19 q outer q [fnb q 18 outer, fns q fo] 2 none (((seen.add 7).add 16).add 16)) rfl ((s2_lit t q must outer q _ 19 q _ 2 (by omega) hq).trans (if_neg n10))
      have g5 := Goes.one rfl (s2_nb2 t q must outer fo q ((((seen.add 7).add 16).add 16).add 16) 19 q outer)
      have g6 := Goes.one (m := S2 t q must 24 q outer q [fnb q 23 outer, fns q fo] 2 none ((((seen.add 7).add 16).add 16).add 16)) rfl ((s2_lit t q must outer q _ 24 q _ 2 (by omega) hq).trans (if_pos h13))
      have g7 := Goes.one rfl (s2_assert t q must outer fo q (((((seen.add 7).add 16).add 16).add 16).add 16))
      have g8 : Goes 1 (S2 t q must 29 (q + 1) false (q + 1) [fln (q + 1) outer, fnb q 23 outer, fns q fo] 3 none ((((((seen.add 7).add 16).add 16).add 16).add 16).add 5)) (S2 t q must 29 (q + 1) false (q + 1) [fln (q + 1) outer, fnb q 23 outer, fns q fo] 3 (some false) (((((((seen.add 7).add 16).add 16).add 16).add 16).add 5).add 16)) := by
        by_cases hs : q + 1 < t.size
        · have hx : ¬ (t.getD (q + 1) 0 == 10) = true := fun hx => h10 (by rw [decide_eq_true hs, hx]; rfl)
          exact Goes.one rfl ((s2_lit t q must false (q + 1) _ 29 (q + 1) _ 3 (by omega) hs).trans (if_neg hx))
        · exact Goes.one rfl (s2_lit_end t q must false (q + 1) _ 29 (q + 1) _ 3 (by omega) (by omega))
      have g9 := Goes.one rfl (s2_ln t q must outer fo (q + 1) (((((((seen.add 7).add 16).add 16).add 16).add 16).add 5).add 16) 29 (q + 1) false)
      have g10 := Goes.one rfl (s2_jump t q must outer (q + 1) (((((((seen.add 7).add 16).add 16).add 16).add 16).add 5).add 16) 32 (q + 1) [fnb q 23 outer, fns q fo] 2 (by omega))
      exact (Ends.of g2 (Ends.of g3 (Ends.of g4 (Ends.of g5 (Ends.of g6 (Ends.of g7 (Ends.of g8 (Ends.of g9 (Ends.of g10 (tail _ 23 _ _ (by omega))))))))))).le (by omega)
  · have h10 : (t.getD q 0 == 10) = true := by
      unfold eolAt at h
      rw [Bool.eq_false_iff.mpr h13, Bool.or_false] at h
      exact h
    have e : eolEnd t q = q + 1 := by unfold eolEnd; rw [Bool.eq_false_iff.mpr h13]; rfl
    rw [e]
    have g1 := Goes.one (m := S2 t q must 12 q outer q [fnb q 11 outer, fns q fo] 2 none (seen.add 7)) rfl ((s2_lit t q must outer q (seen.add 7) 12 q _ 2 (by omega) hq).trans (if_neg h13))
    have g2 := Goes.one rfl (s2_nb1 t q must outer fo q ((seen.add 7).add 16) 12 q outer)
    have g3 := Goes.one (m := S2 t q must 19 q outer q [fnb q 18 outer, fns q fo] 2 none ((seen.add 7).add 16)) rfl ((s2_lit t q must outer q _ 19 q _ 2 (by omega) hq).trans (if_pos h10))
    have g4 := Goes.one rfl (s2_jump t q must outer q (((seen.add 7).add 16).add 16) 21 (q + 1) [fnb q 18 outer, fns q fo] 2 (by omega))
    exact (Ends.of g1 (Ends.of g2 (Ends.of g3 (Ends.of g4 (tail _ 18 _ _ (by omega)))))).le (by omega)
end

noncomputable def find2 (t : Array Nat) : Nat → Nat → Option Nat
  | 0, _ => none
  | f + 1, s => if s ≥ t.size then none else if eolAt t s = true then some s else find2 t f (s + 1)

theorem inSet2 (c : Nat) (seen : Sre.Seen) : ∃ seen', inSet code2 c 36 5 true seen = .ok (c == 10 || c == 13, seen') := by
  by_cases h : (c == 10) = true
  · refine ⟨seen.add 16, ?_⟩
    show (if (c == 10) = true then _ else _) = _
    rw [if_pos h, h]; rfl
  · by_cases h2 : (c == 13) = true
    · refine ⟨(seen.add 16).add 16, ?_⟩
      show (if (c == 10) = true then _ else if (c == 13) = true then _ else _) = _
      rw [if_neg h, if_pos h2, h2, Bool.or_true]; rfl
    · refine ⟨((seen.add 16).add 16).add 0, ?_⟩
      show (if (c == 10) = true then _ else if (c == 13) = true then _ else _) = _
      rw [if_neg h, if_neg h2, Bool.eq_false_iff.mpr h, Bool.eq_false_iff.mpr h2]; rfl

theorem admitted2 (m : M) (hc : m.code = code2) (hl : m.lim = m.text.size) : ∀ (f s : Nat) (seen : Sre.Seen), ∃ seen', M.admitted m f s seen = .ok (find2 m.text f s, seen')
  | 0, s, seen => ⟨seen, rfl⟩
  | f + 1, s, seen => by
    rw [M.admitted, find2, hl]
    by_cases h : s ≥ m.text.size
    · exact ⟨seen, by rw [if_pos h, if_pos h]⟩
    · rw [if_neg h, if_neg h, hc]
      obtain ⟨seen', e⟩ := inSet2 (m.text.getD s 0) seen
      have e' : inSet code2 (m.text.getD s 0) code2.size 5 true seen = .ok (eolAt m.text s, seen') := e
      rw [e']
      cases hx : eolAt m.text s with
      | true => exact ⟨seen', rfl⟩
      | false =>
        obtain ⟨seen'', e2⟩ := admitted2 m hc hl f (s + 1) seen'
        exact ⟨seen'', e2⟩

theorem forSearch2 (t : Array Nat) (s : Nat) (must : Bool) (hs : s ≤ t.size) : Ends 40 (forSearch code2 t 0 s t.size must) ((find2 t (t.size + 1 - s) s).map fun q => (q, eolEnd t q)) := by
  have fin : ∀ m : M, m.answer = some false → m.frames = [] → m.outcome = none → Ends 40 m none := fun m ea ef eo => by
    refine Ends.le (a := 1) ⟨_, Goes.one eo rfl, ?_⟩ (by omega)
    unfold M.step
    rw [eo, ea, ef]; rfl
  by_cases h : s < t.size
  · have h1 : (decide (s > t.size) || decide (t.size - s < 1)) = false := by
      rw [decide_eq_false (by omega), decide_eq_false (by omega)]; rfl
    have e : forSearch code2 t 0 s t.size must = if (decide (s > t.size) || decide (t.size - s < 1)) = true then _ else M.attemptFrom { code := code2, text := t, lim := t.size, start := s, lastStart := t.size, mustAdvance := must, pc := 10, pos := s, handed := s, marks := #[], seen := ({} : Sre.Seen).add 14 } s true := rfl
    rw [e, if_neg (by rw [h1]; decide)]
    obtain ⟨seen', e2⟩ := admitted2 { code := code2, text := t, lim := t.size, start := s, lastStart := t.size, mustAdvance := must, pc := 10, pos := s, handed := s, marks := #[], seen := ({} : Sre.Seen).add 14 } rfl rfl (t.size + 1 - s) s (({} : Sre.Seen).add 14)
    have e3 : M.attemptFrom { code := code2, text := t, lim := t.size, start := s, lastStart := t.size, mustAdvance := must, pc := 10, pos := s, handed := s, marks := #[], seen := ({} : Sre.Seen).add 14 } s true = match M.admitted { code := code2, text := t, lim := t.size, start := s, lastStart := t.size, mustAdvance := must, pc := 10, pos := s, handed := s, marks := #[], seen := ({} : Sre.Seen).add 14 } (t.size + 1 - s) s (({} : Sre.Seen).add 14) with
      | .ok (some s', seen) => S2 t s' false 10 s' true s' [fns s' true] 1 none seen
      | .ok (none, seen) => { code := code2, text := t, lim := t.size, start := s, lastStart := t.size, mustAdvance := must, pc := 10, pos := s, handed := s, marks := #[], seen := seen, answer := some false }
      | .error why => M.stick { code := code2, text := t, lim := t.size, start := s, lastStart := t.size, mustAdvance := must, pc := 10, pos := s, handed := s, marks := #[], seen := ({} : Sre.Seen).add 14 } why := rfl
    rw [e3, e2]
    cases hf : find2 t (t.size + 1 - s) s with
    | none => exact fin _ rfl rfl rfl
    | some q =>
      have key : ∀ f s, find2 t f s = some q → q < t.size ∧ eolAt t q = true := fun f => by
        induction f with
        | zero => intro s h; cases h
        | succ f ih =>
          intro s h
          rw [find2] at h
          by_cases h1 : s ≥ t.size
          · rw [if_pos h1] at h; cases h
          · rw [if_neg h1] at h
            by_cases h2 : eolAt t s = true
            · rw [if_pos h2] at h; cases h; exact ⟨by omega, h2⟩
            · rw [if_neg h2] at h; exact ih _ h
      obtain ⟨k1, k2⟩ := key _ _ hf
      exact (s2_attempt t q false true true q seen' k1 k2).le (by omega)
  · have hs' : s = t.size := by omega
    have e : find2 t (t.size + 1 - s) s = none := by
      rw [show t.size + 1 - s = 0 + 1 by omega, find2, if_pos (by omega)]
    rw [e]
    have h1 : (decide (s > t.size) || decide (t.size - s < 1)) = true := by
      rw [decide_eq_true (p := t.size - s < 1) (by omega), Bool.or_true]
    have : forSearch code2 t 0 s t.size must = if (decide (s > t.size) || decide (t.size - s < 1)) = true then (_ : M).say false else _ := rfl
    rw [this, if_pos h1]
    exact fin _ rfl rfl rfl
end

-- R1
set_option maxRecDepth 100000
theorem re_plain : PlainAttrs "re.Pattern" :=
  ⟨⟨"object.__getattribute__", by rw [typeLookup_type, builtinLookup_eq_fast]; kernel_rfl, by decide +kernel⟩, by rw [typeLookup_type, builtinLookup_eq_fast]; kernel_rfl⟩
theorem re_slot : Slot "re.Pattern" "sub" "re.Pattern.sub" :=
  .of (owner := "re.Pattern") (n := "sub") (by rw [typeLookup_type, builtinLookup_eq_fast]; kernel_rfl) (by decide +kernel) (by decide +kernel) (by decide +kernel) (by first | exact .inl (by decide +kernel) | exact .inr (by decide +kernel)) (by rw [isSubtype_type]; kernel_rfl)
theorem re_type : typeOf (.builtin "re.Pattern.sub") = pure (.type "method_descriptor") := by show builtinType _ = _; rw [builtinType_eq_fast]; kernel_rfl
theorem re_entry : entryFor table "re.Pattern.sub" = some Builtin.«re.Pattern.sub» := entryFor_of_tree (by kernel_rfl)
theorem re_entry_loop : entryFor table "re.Pattern.sub.loop" = some Builtin.«re.Pattern.sub.loop» := entryFor_of_tree (by kernel_rfl)
theorem re_plainId : plainId "re.Pattern.sub.loop" = true := by decide +kernel
theorem re_args (a b c : Value) : argsOk "re.Pattern.sub" ⟨[a, b, c], []⟩ := by
  unfold argsOk
  have e : Manifest.signature? "re.Pattern.sub" = (Manifest.owners.lookup "re.Pattern").bind (·.lookup "sub") := by kernel_rfl
  rw [e]
  kernel_rfl
theorem str_nocall : typeLookup (.type "str") "__call__" = pure none := by rw [typeLookup_type, builtinLookup_eq_fast]; kernel_rfl

-- R2
set_option maxRecDepth 100000
section
open PySem.Builtin.Re

section
variable {M : Model} {A : Around} {E : Value → Shared → Prop} {s : Shared}

theorem drive_wp {Q : Sre.M → Shared → Prop} : ∀ (turns n : Nat) (m m' : Sre.M), Goes n m m' → m'.outcome.isSome = true → n < 4 * turns → Q m' s → wpAny M A (reDrive turns m) Q E s
  | 0, n, m, m', _, _, h, _ => absurd h (by omega)
  | turns + 1, n, m, m', ⟨k, hk, e⟩, ho, h, hQ => by
    show wpAny M A (if (m.runFor 4).outcome.isSome = true then pure (m.runFor 4) else (do rule "sre.turn"; reDrive turns (m.runFor 4))) Q E s
    by_cases h4 : k ≤ 4
    · have e2 : m.runFor 4 = m' := by
        rw [show 4 = k + (4 - k) by omega, runFor_add, e]; exact runFor_done ho _
      rw [e2, if_pos ho]
      exact wpAny_pure hQ
    · have e2 : Sre.M.runFor (k - 4) (m.runFor 4) = m' := by rw [← runFor_add, show 4 + (k - 4) = k by omega]; exact e
      by_cases h5 : (m.runFor 4).outcome.isSome = true
      · rw [if_pos h5]
        have : m.runFor 4 = m' := by rw [← e2]; exact (runFor_done h5 _).symm
        rw [this]; exact wpAny_pure hQ
      · rw [if_neg h5]
        exact wpAny_bind (wpAny_rule (drive_wp turns (n - 4) _ m' ⟨k - 4, by omega, e2⟩ ho (by omega) hQ))

theorem run_wp {Q : Option Sre.M → Shared → Prop} {n : Nat} {m : Sre.M} {r : Option (Nat × Nat)} (h : Ends n m r) (hn : n < 2 ^ 60)
    (hQ : match r with | some (p, e) => ∀ m', m'.start = p → m'.handed = e → Q (some m') s | none => Q none s) : wpAny M A (reRunToEnd m) Q E s := by
  have key : ∀ m', Goes n m m' → m'.outcome.isSome = true → wpAny M A (match m'.outcome with
      | some .matched => pure (some m')
      | some .failed => pure none
      | some (.stuck why) => unsupported s!"_sre:{why}"
      | none => unsupported "internal:sre:no-outcome") Q E s → wpAny M A (reRunToEnd m) Q E s := fun m' g ho hq => by
    unfold reRunToEnd
    refine wpAny_bind (drive_wp (2 ^ 64) n m m' g ho (by omega) ?_)
    refine wpAny_bind (wpAny_forIn_list _ (fun _ _ s' => s' = s) _ (fun x rest b s' hs => ?_) (fun b s' hs => ?_) _ _ rfl)
    · subst hs
      split
      · exact wpAny_bind (wpAny_rule (wpAny_pure rfl))
      · exact wpAny_pure rfl
    · subst hs
      exact hq
  cases r with
  | none =>
    obtain ⟨m', g, e⟩ := h
    refine key m' g (by rw [e]; rfl) ?_
    rw [e]; exact wpAny_pure hQ
  | some q =>
    obtain ⟨p, e⟩ := q
    obtain ⟨m', g, e1, e2, e3⟩ := h
    refine key m' g (by rw [e1]; rfl) ?_
    rw [e1]; exact wpAny_pure (hQ m' e2 e3)

/-- a compiled pattern in the heap -/
structure PatAt (h : Heap) (a : Addr) (code : Array Nat) : Prop where
  pat : ∃ c x y, h.get? a = some { cls := .type "re.Pattern", data := .fields #[x, y, .int 0 0, .none, .none, .ref c, .int 0 0] } ∧ ∃ o cs n, h.get? c = some o ∧ o.data = .seq cs n ∧ (cs.map reRawOf).map (·.toNat) = code
theorem PatAt.keeps {h h' : Heap} {a : Addr} {code : Array Nat} (p : PatAt h a code) (k : ∀ b o, h.get? b = some o → h'.get? b = some o) : PatAt h' a code :=
  let ⟨c, x, y, e, o, cs, n, e2, e3⟩ := p.pat; ⟨c, x, y, k _ _ e, o, cs, n, k _ _ e2, e3⟩

theorem whole_wp {a : Addr} {code : Array Nat} {x : Str} {t : Tok} {Q : ReTarget → Shared → Prop} (p : PatAt s.heap a code)
    (hQ : Q { pattern := .ref a, string := .str x t, code := code, text := x.cps, kind := 0, groups := 0, pos := 0, lim := x.cps.size } s) : wpAny M A (reWholeTarget (.ref a) (.str x t)) Q E s := by
  obtain ⟨c, u, v, e, o, cs, n, e2, e3, e4⟩ := p.pat
  unfold reWholeTarget fieldsOf
  refine wpAny_bind (wpAny_bind (wpAny_load e (wpAny_pure ?_)))
  show wpAny M A (reRawItems (.ref c) >>= fun cs => pure { pattern := .ref a, string := .str x t, code := cs.map (·.toNat), text := x.cps, kind := 0, groups := 0, pos := 0, lim := x.cps.size }) Q E s
  unfold reRawItems
  refine wpAny_bind (wpAny_bind (wpAny_seqItems e2 e3 (wpAny_pure ?_)))
  rw [show ((some cs).getD #[]).map reRawOf = cs.map reRawOf from rfl, e4]
  exact wpAny_pure hQ
end
end

-- R3
set_option maxRecDepth 100000
section
open PySem.Builtin.Re

noncomputable def subP (find : Nat → Option (Nat × Nat)) (x : Array Nat) (repl : Str) : Nat → Nat → List Str
  | 0, _ => []
  | f + 1, done => match find done with
    | some (p, e) => (if done < p then [⟨x.extract done p⟩] else []) ++ repl :: subP find x repl f e
    | none => if done < x.size then [⟨x.extract done x.size⟩] else []

structure FindOk (code x : Array Nat) (find : Nat → Option (Nat × Nat)) : Prop where
  ends : ∀ s, s ≤ x.size → ∀ must, Ends (10 * x.size + 100) (Sre.forSearch code x 0 s x.size must) (find s)
  on : ∀ s p e, s ≤ x.size → find s = some (p, e) → s ≤ p ∧ p < e ∧ e ≤ x.size

theorem strValues_snoc (l : List (Str × Tok)) (y : Str) (t : Tok) : (strValues l).toArray.push (.str y t) = (strValues (l ++ [(y, t)])).toArray := by
  unfold strValues
  simp
section
variable {G : Gd} {A : Around}

theorem join_end {A : Around} {E : Value → Shared → Prop} {x : Array Nat} {D : Addr} {l : List (Str × Tok)} {c : Nat} {s : Shared} {P : Fin → Shared → Prop} (hD : s.heap.get? D = some (lobj (strValues l).toArray c)) (hok : JoinOk ⟨#[]⟩ (l.map (·.1)) = true)
    (hP : ∀ tk tok, P (.done (.ret (.str (Txt.join ⟨#[]⟩ (l.map (·.1))) tok))) { s with toks := tk }) :
    wpAny (model G.prog G.w) A (mkStr ⟨x.extract 0 0⟩ >>= fun joiner => seqItems? (.ref D) >>= fun is => (if (is.getD #[]).isEmpty = true then ret joiner else call (.builtin "str.join") [joiner, .ref D] >>= fun text => ret text)) P E s := by
  have e0 : x.extract 0 0 = #[] := by simp
  rw [e0]
  refine wpAny_bind (wpAny_mkStr ?_ (by show 0 ≤ _; exact Nat.zero_le _))
  refine wpAny_bind (wpAny_seqItems hD rfl ?_)
  cases l with
  | nil =>
    show wpAny _ _ (ret _) _ _ _
    exact wpAny_pure (hP _ _)
  | cons p r =>
    show wpAny _ _ (call _ _ >>= _) _ _ _
    have hok' : PySem.Builtin.Str.tooLong ((((p :: r).map (·.1)).toArray.foldl (· + ·.length + (⟨#[]⟩ : Str).length) 0)) = false := by
      unfold JoinOk at hok
      rw [Bool.not_eq_true'] at hok
      exact hok
    refine wpAny_bind (call_meets PySem.F.slot_str_join (typeIs_str _ _ _) PySem.F.entry_str_join (PySem.F.args_str_join_2 _ _) (meets_str_join_list ⟨#[]⟩ _ D (p :: r) hok') ⟨⟨_, hD, rfl, c, rfl⟩, post_join (p :: r) ⟨joinFit_length hok', fun t' k' => ?_⟩⟩)
    exact wpAny_pure (hP _ _)

theorem mapSeq_l (vs : Array Value) (n : Nat) (v : Value) : ∃ n', Obj.mapSeq (fun xs => xs.push v) (lobj vs n) = lobj (vs.push v) n' := by
  exact ⟨_, rfl⟩

@[reducible] def subC (a D : Addr) (x repl : Str) (t u : Tok) (n : Int) (h : Nat) (b : Bool) : Code := .builtin "re.Pattern.sub.loop" ⟨[.ref a, .str x t, .str repl u, rawInt 0, rawInt 0, rawInt n, rawInt h, rawInt h, .bool b, .ref D, .bool false], []⟩
theorem ext_fits {x : Array Nat} (hx : x.size ≤ 100000) (i j : Nat) : (x.extract i j).size ≤ sizeLine := by
  rw [Array.size_extract]
  exact Nat.le_trans (Nat.sub_le _ _) (Nat.le_trans (Nat.min_le_right _ _) (Nat.le_trans hx (show 100000 ≤ 2 ^ 24 by decide)))
theorem vals_fits {l : List (Str × Tok)} {n : Nat} (h : l.length ≤ n) (hn : n ≤ 1000000) : (strValues l).toArray.size ≤ sizeLine := by
  rw [show (strValues l).toArray.size = l.length by simp [strValues]]
  exact Nat.le_trans h (Nat.le_trans hn (show 1000000 ≤ 2 ^ 24 by decide))
theorem push_fits {a : Array Value} {v : Value} (hz : a.size ≤ sizeLine) : (a.push v).size ≤ sizeLine + 1 := by rw [Array.size_push]; exact Nat.succ_le_succ hz
theorem turn_le {X d p e f : Nat} (hf : X + 1 - d ≤ f + 1) (h1 : d ≤ p) (h2 : p < e) : X + 1 - e ≤ f := by omega
theorem snoc_le {l : List (Str × Tok)} {y : Str × Tok} {n f : Nat} (h : l.length ≤ n + 1) (hn : n + 2 * (f + 1) ≤ 1000000) : (l ++ [y]).length + 2 * f ≤ 1000000 := by
  rw [List.length_append, List.length_singleton]
  omega
theorem loop_sub {a D : Addr} {code : Array Nat} {x repl : Str} {t u : Tok} {find : Nat → Option (Nat × Nat)} {h₁ : Heap} (hp : PatAt h₁ a code) (hF : FindOk code x.cps find) (hD : h₁.get? D = none) (hx : x.cps.size ≤ 100000) :
    ∀ (f done : Nat) (s : Shared) (n : Int) (must : Bool) (l : List (Str × Tok)) (c : Nat) (R : Result → Shared → Prop), x.cps.size + 1 - done ≤ f → done ≤ x.cps.size → (∀ b o, h₁.get? b = some o → s.heap.get? b = some o) → s.heap.get? D = some (lobj (strValues l).toArray c) →
      l.length + 2 * f ≤ 1000000 → JoinOk ⟨#[]⟩ (l.map (·.1) ++ subP find x.cps repl f done) = true →
      (∀ h' tk tok, (∀ b o, h₁.get? b = some o → h'.get? b = some o) → R (.ok (.ret (.str (Txt.join ⟨#[]⟩ (l.map (·.1) ++ subP find x.cps repl f done)) tok))) { s with heap := h', toks := tk }) →
      codeAny G.M A (.builtin "re.Pattern.sub.loop" ⟨[.ref a, .str x t, .str repl u, rawInt 0, rawInt 0, rawInt n, rawInt done, rawInt done, .bool must, .ref D, .bool false], []⟩) R s := by
  intro f
  induction f with
  | zero => intro done s n must l c R hf hd; omega
  | succ f ih =>
    intro done s n must l c R hf hd hk hD' hlen hok hR
    refine codeAny_builtin re_entry_loop ?_
    rw [Around.under_plainId re_plainId _]
    refine wpAny_gen fun P hP0 => ?_
    unfold Builtin.«re.Pattern.sub.loop»
    refine wpAny_bind (whole_wp (hp.keeps hk) ?_)
    show wpAny _ A.in1 (reRunToEnd (Sre.forSearch code x.cps 0 (done : Int).toNat x.cps.size must) >>= _) _ _ s
    have ed : (done : Int).toNat = done := rfl
    rw [ed]
    refine wpAny_bind (run_wp (hF.ends done hd must) (Nat.lt_of_le_of_lt (Nat.add_le_add_right (Nat.mul_le_mul_left 10 hx) 100) (by decide)) ?_)
    cases hfd : find done with
    | none =>
      dsimp only
      show wpAny _ A.in1 (if done < x.cps.size then (mkStr ⟨x.cps.extract done x.cps.size⟩ >>= fun v => updateSeq D (fun xs => xs.push v) >>= fun _ =>
          mkStr ⟨x.cps.extract 0 0⟩ >>= fun joiner => seqItems? (.ref D) >>= fun is => (if (is.getD #[]).isEmpty = true then ret joiner else call (.builtin "str.join") [joiner, .ref D] >>= fun text => ret text))
        else mkStr ⟨x.cps.extract 0 0⟩ >>= fun joiner => seqItems? (.ref D) >>= fun is => (if (is.getD #[]).isEmpty = true then ret joiner else call (.builtin "str.join") [joiner, .ref D] >>= fun text => ret text)) _ _ s
      rw [show subP find x.cps repl (f + 1) done = if done < x.cps.size then [⟨x.cps.extract done x.cps.size⟩] else [] by rw [subP, hfd]] at hok hR
      by_cases hlt : done < x.cps.size
      · rw [if_pos hlt] at hok hR ⊢
        refine wpAny_bind (wpAny_mkStr ?_ (ext_fits hx _ _))
        obtain ⟨c', ec⟩ := mapSeq_l (strValues l).toArray c (.str ⟨x.cps.extract done x.cps.size⟩ s.toks)
        have hz : (strValues l).toArray.size ≤ sizeLine := vals_fits (Nat.le_refl _) (Nat.le_trans (Nat.le_add_right _ _) hlen)
        refine wpAny_bind (wpAny_updateSeq hD' rfl ?_ hz (push_fits hz))
        have hD2 : (s.heap.update D (Obj.mapSeq fun xs => xs.push (.str ⟨x.cps.extract done x.cps.size⟩ s.toks))).get? D = some (lobj (strValues (l ++ [(⟨x.cps.extract done x.cps.size⟩, s.toks)])).toArray c') := by
          rw [Heap.get?_update_self _ hD' (by rw [ec]; rfl), ec, strValues_snoc]
        refine join_end (E := _) hD2 (by simpa using hok) fun tk tok => hP0 _ _ ?_
        have := hR (s.heap.update D (Obj.mapSeq fun xs => xs.push (.str ⟨x.cps.extract done x.cps.size⟩ s.toks))) tk tok fun b o hb => (Heap.get?_update_other _ _ (fun q : D = b => by rw [← q, hD] at hb; cases hb)).trans (hk b o hb)
        simpa using this
      · rw [if_neg hlt] at hok hR ⊢
        rw [List.append_nil] at hok hR
        exact join_end hD' hok fun tk tok => hP0 _ _ (hR s.heap tk tok hk)
    | some q =>
      obtain ⟨p, e⟩ := q
      intro m' e1 e2
      dsimp only
      show wpAny _ A.in1 (if done < m'.start then (mkStr ⟨x.cps.extract done m'.start⟩ >>= fun v => updateSeq D (fun xs => xs.push v) >>= fun _ =>
          updateSeq D (fun xs => xs.push (.str repl u)) >>= fun _ => again (subC a D x repl t u (n + 1) m'.handed (m'.handed == m'.start)))
        else updateSeq D (fun xs => xs.push (.str repl u)) >>= fun _ => again (subC a D x repl t u (n + 1) m'.handed (m'.handed == m'.start))) _ _ s
      obtain ⟨o1, o2, o3⟩ := hF.on done p e hd hfd
      rw [show subP find x.cps repl (f + 1) done = (if done < p then [⟨x.cps.extract done p⟩] else []) ++ repl :: subP find x.cps repl f e by rw [subP, hfd]] at hok hR
      have hz : ∀ l' : List (Str × Tok), l'.length ≤ l.length + 2 → (strValues l').toArray.size ≤ sizeLine := fun l' h => vals_fits h (Nat.le_trans (Nat.add_le_add_left (Nat.le_mul_of_pos_right 2 (Nat.succ_pos f)) _) hlen)
      -- the replacement, and on
      have on : ∀ (l' : List (Str × Tok)) (c' : Nat) (s' : Shared), (∃ h' tk, s' = { s with heap := h', toks := tk }) → l'.length ≤ l.length + 1 → (∀ b o, h₁.get? b = some o → s'.heap.get? b = some o) → s'.heap.get? D = some (lobj (strValues l').toArray c') →
          l'.map (·.1) = l.map (·.1) ++ (if done < p then [⟨x.cps.extract done p⟩] else []) →
          ∀ (P : Fin → Shared → Prop) (E : Value → Shared → Prop), (∀ s'', codeAny (model G.prog G.w) A (subC a D x repl t u (n + 1) m'.handed (m'.handed == p)) R s'' →
            P (.again (subC a D x repl t u (n + 1) m'.handed (m'.handed == p))) s'') →
          wpAny (model G.prog G.w) A.in1 (updateSeq D (fun xs => xs.push (.str repl u)) >>= fun _ => again (subC a D x repl t u (n + 1) m'.handed (m'.handed == p))) P E s' := by
        intro l' c' s' hs' hl' hk' hDl hm P E hP
        obtain ⟨hh, tt, rfl⟩ := hs'
        obtain ⟨c2, ec⟩ := mapSeq_l (strValues l').toArray c' (.str repl u)
        have hz1 := hz l' (Nat.le_succ_of_le hl')
        refine wpAny_bind (wpAny_updateSeq hDl rfl ?_ hz1 (push_fits hz1))
        have hD2 : (hh.update D (Obj.mapSeq fun xs => xs.push (.str repl u))).get? D = some (lobj (strValues (l' ++ [(repl, u)])).toArray c2) := by
          rw [Heap.get?_update_self _ hDl (by rw [ec]; rfl), ec, strValues_snoc]
        have hm2 : (l' ++ [(repl, u)]).map (·.1) ++ subP find x.cps repl f e = l.map (·.1) ++ ((if done < p then [⟨x.cps.extract done p⟩] else []) ++ repl :: subP find x.cps repl f e) := by
          rw [List.map_append, hm]; simp
        have hkk : ∀ b o, h₁.get? b = some o → (hh.update D (Obj.mapSeq fun xs => xs.push (.str repl u))).get? b = some o := fun b o hb => (Heap.get?_update_other _ _ (fun q : D = b => by rw [← q, hD] at hb; cases hb)).trans (hk' b o hb)
        refine wpAny_pure (hP _ ?_)
        rw [e2]
        refine ih e _ (n + 1) _ (l' ++ [(repl, u)]) c2 R (turn_le hf o1 o2) o3 hkk hD2 (snoc_le hl' hlen) (by rw [hm2]; exact hok) fun h' tk tok hh' => ?_
        rw [hm2]
        exact hR h' tk tok hh'
      rw [e1]
      by_cases hlt : done < p
      · rw [if_pos hlt] at on ⊢
        refine wpAny_bind (wpAny_mkStr ?_ (ext_fits hx _ _))
        obtain ⟨c', ec⟩ := mapSeq_l (strValues l).toArray c (.str ⟨x.cps.extract done p⟩ s.toks)
        have hz1 := hz l (Nat.le_add_right _ 2)
        refine wpAny_bind (wpAny_updateSeq hD' rfl ?_ hz1 (push_fits hz1))
        have hD2 : (s.heap.update D (Obj.mapSeq fun xs => xs.push (.str ⟨x.cps.extract done p⟩ s.toks))).get? D = some (lobj (strValues (l ++ [(⟨x.cps.extract done p⟩, s.toks)])).toArray c') := by
          rw [Heap.get?_update_self _ hD' (by rw [ec]; rfl), ec, strValues_snoc]
        exact on _ c' _ ⟨_, _, rfl⟩ (by simp) (fun b o hb => (Heap.get?_update_other _ _ (fun q : D = b => by rw [← q, hD] at hb; cases hb)).trans (hk b o hb)) hD2 (by simp) _ _ (fun s'' h => hP0 _ _ ⟨plainId_quiet re_plainId _, h⟩)
      · rw [if_neg hlt] at on ⊢
        exact on l c s ⟨s.heap, s.toks, rfl⟩ (Nat.le_succ _) hk hD' (by simp) _ _ (fun s'' h => hP0 _ _ ⟨plainId_quiet re_plainId _, h⟩)
end
end

-- R4
set_option maxRecDepth 100000
section
open PySem.Builtin.Re

theorem named_sub (a b : Value) : reNamed "re.Pattern.sub" "sub" ["repl", "string", "count"] 2 [a, b] [] = pure [some a, some b, none] := by rfl

section
variable {G : Gd} {k : Nat} {Q : D → Prop}

theorem op_sub_re {a : Addr} {code : Array Nat} {x repl : Str} {find : Nat → Option (Nat × Nat)} (hp : ∀ h, G.B h → PatAt h a code) (hF : FindOk code x.cps find) (hx : x.cps.size ≤ 100000) (hr : repl.cps.contains 92 = false)
    (hok : JoinOk ⟨#[]⟩ (subP find x.cps repl (x.cps.size + 1) 0) = true) (hQ : Q (.str (Txt.join ⟨#[]⟩ (subP find x.cps repl (x.cps.size + 1) 0)))) :
    OpL G k (fun vs => call (.builtin "re.Pattern.sub") vs) [.val (.ref a), .str repl, .str x] Q := fun A I s vs oa hB hI rr => by
  obtain ⟨v, u, z, rfl, r1, r2, r3⟩ := repL_three rr
  rw [rep_val] at r1
  subst r1
  obtain ⟨t1, rfl⟩ := rep_str.mp r2
  obtain ⟨t2, rfl⟩ := rep_str.mp r3
  have P := hp _ hB
  obtain ⟨c, y1, y2, e, _⟩ := P.pat
  refine wpAny_call (codeAny_call_builtin re_slot.plain re_entry (re_slot.check _ _ _ _ _ _ _ _ ⟨_, e, rfl⟩ (re_args _ _ _) ?_))
  unfold Builtin.«re.Pattern.sub» reSubstitute
  refine wpAny_bind (wpAny_of_eq (named_sub _ _) ?_)
  dsimp only
  refine wpAny_bind (wpAny_pure ?_)
  refine wpAny_bind (wpAny_specialOf (typeIs_str _ _ _) str_nocall ?_)
  simp only [Option.isSome_none, Bool.false_eq_true, if_false]
  refine wpAny_bind (wpAny_pure ?_)
  dsimp only
  refine wpAny_bind (wpAny_pure ?_)
  simp only [hr, Bool.not_false, if_true]
  refine wpAny_bind (wpAny_pure ?_)
  dsimp only
  refine wpAny_bind (wpAny_holding (whole_wp P ?_))
  rw [if_neg (by decide)]
  refine wpAny_bind (wpAny_newList ?_ (Nat.zero_le _))
  have hk : ∀ b o, s.heap.get? b = some o → (s.heap.push (lobj #[] 0)).get? b = some o := fun b o e => Heap.get?_push_of_some _ e
  refine wpAny_pure ⟨plainId_quiet re_plainId _, ?_⟩
  refine loop_sub (G := G) (h₁ := s.heap) (D := s.heap.objs.size) P hF (size_none _) hx (x.cps.size + 1) 0 _ 0 false [] 0 _ (by omega) (Nat.zero_le _) hk (Heap.get?_push_size _ rfl) (by simp; omega) hok fun h' tk tok hk' => ?_
  exact Res.one (Grow.heap (t := tk) hI hk') (rep_str.mpr ⟨tok, rfl⟩) hQ

theorem meth_re {a : Addr} {code : Array Nat} (hp : ∀ h, G.B h → PatAt h a code) : Meth G (.val (.ref a)) "sub" "re.Pattern.sub" := fun A I s v pl Q E hB hI r h => by
  rw [rep_val] at r
  subst r
  obtain ⟨c, y1, y2, e, _⟩ := (hp _ hB).pat
  exact getMethod_builtin ⟨_, e, rfl⟩ re_plain re_slot re_type (fun b eb => by cases eb; exact ⟨_, e, rfl⟩) h
end
end

-- Q1
set_option maxRecDepth 100000
noncomputable def f1 (t : Array Nat) (s : Nat) : Option (Nat × Nat) := (find1 t (t.size - s + 1) s).map fun q => (q, q + 1)
noncomputable def f2 (t : Array Nat) (s : Nat) : Option (Nat × Nat) := (find2 t (t.size + 1 - s) s).map fun q => (q, eolEnd t q)

theorem find1_on (t : Array Nat) : ∀ f s q, find1 t f s = some q → s ≤ q ∧ q < t.size
  | 0, s, q, h => by cases h
  | f + 1, s, q, h => by
    rw [find1] at h
    split at h
    · rename_i h1
      cases h
      unfold hit1 at h1
      simp only [Bool.and_eq_true, decide_eq_true_eq] at h1
      exact ⟨Nat.le_refl _, h1.1.2⟩
    · split at h
      · have := find1_on t f (s + 1) q h; omega
      · cases h
theorem find2_on (t : Array Nat) : ∀ f s q, find2 t f s = some q → s ≤ q ∧ q < t.size
  | 0, s, q, h => by cases h
  | f + 1, s, q, h => by
    rw [find2] at h
    split at h
    · cases h
    · split at h
      · cases h; omega
      · have := find2_on t f (s + 1) q h; omega
theorem f1_ok (t : Array Nat) : FindOk code1 t (f1 t) where
  ends := fun s hs must => (forSearch1 t s must hs).le (by omega)
  on := fun s p e hs h => by
    unfold f1 at h
    cases q : find1 t (t.size - s + 1) s with
    | none => rw [q] at h; cases h
    | some p' => rw [q] at h; cases h; have := find1_on t _ _ _ q; omega
theorem f2_ok (t : Array Nat) : FindOk code2 t (f2 t) where
  ends := fun s hs must => (forSearch2 t s must hs).le (by omega)
  on := fun s p e hs h => by
    unfold f2 at h
    cases q : find2 t (t.size + 1 - s) s with
    | none => rw [q] at h; cases h
    | some p' =>
      rw [q] at h; cases h
      have := find2_on t _ _ _ q
      unfold eolEnd
      split
      · rename_i h2
        simp only [Bool.and_eq_true, decide_eq_true_eq] at h2
        omega
      · omega

theorem ext_len (x : Array Nat) (i j : Nat) : (⟨x.extract i j⟩ : Str).length ≤ j - i := by
  show (x.extract i j).size ≤ _
  rw [Array.size_extract]
  exact Nat.sub_le_sub_right (Nat.min_le_left _ _) _
theorem sub_bound {d p e X r s S : Nat} (h1 : d ≤ p) (h2 : p < e) (h3 : e ≤ X) (hs : s ≤ p - d) (hS : S ≤ (X - e) * (r + 1)) : s + (r + S) ≤ (X - d) * (r + 1) := by
  have e1 : (p - d) + 1 + (X - e) ≤ X - d := by clear hs hS; omega
  have e2 : ((p - d) + 1 + (X - e)) * (r + 1) = (p - d) * (r + 1) + ((r + 1) + (X - e) * (r + 1)) := by rw [Nat.add_mul, Nat.add_mul, Nat.one_mul, Nat.add_assoc]
  refine Nat.le_trans ?_ (Nat.mul_le_mul_right _ e1)
  rw [e2]
  exact Nat.add_le_add (Nat.le_trans hs (Nat.le_mul_of_pos_right _ (Nat.succ_pos r))) (Nat.add_le_add (Nat.le_succ r) hS)
theorem subP_len {x : Array Nat} {code : Array Nat} {find : Nat → Option (Nat × Nat)} {repl : Str} (hF : FindOk code x find) : ∀ f done, done ≤ x.size → ((subP find x repl f done).map (·.length)).sum ≤ (x.size - done) * (repl.length + 1)
  | 0, done, _ => by simp [subP]
  | f + 1, done, hd => by
    rw [subP]
    cases h : find done with
    | none =>
      dsimp only
      split
      · exact Nat.le_trans (ext_len x done x.size) (Nat.le_mul_of_pos_right _ (Nat.succ_pos _))
      · exact Nat.zero_le _
    | some q =>
      obtain ⟨p, e⟩ := q
      obtain ⟨o1, o2, o3⟩ := hF.on done p e hd h
      dsimp only
      rw [List.map_append, List.sum_append, List.map_cons, List.sum_cons]
      refine sub_bound o1 o2 o3 ?_ (subP_len (repl := repl) hF f e o3)
      split
      · exact ext_len x done p
      · exact Nat.zero_le _

theorem join_fits {l : List Str} (h : (l.map (·.length)).sum ≤ 100000) : JoinOk ⟨#[]⟩ l = true ∧ (Txt.join ⟨#[]⟩ l).length ≤ (l.map (·.length)).sum := by
  have e0 : (⟨#[]⟩ : Str).length = 0 := rfl
  constructor
  · unfold JoinOk
    rw [Bool.not_eq_true']
    have e : l.toArray.foldl (fun (x1 : Nat) (x2 : Str) => x1 + x2.length + (⟨#[]⟩ : Str).length) 0 = (l.map (·.length)).sum + l.length * (⟨#[]⟩ : Str).length := StrLaws.joinTotal ⟨#[]⟩ l
    rw [e0] at e
    show PySem.Builtin.Str.tooLong (l.toArray.foldl (fun (x1 : Nat) (x2 : Str) => x1 + x2.length + (⟨#[]⟩ : Str).length) 0) = false
    rw [e0, e]
    unfold PySem.Builtin.Str.tooLong
    have : sizeLine = 2 ^ 24 := rfl
    simp
    omega
  · show (PySem.Builtin.Str.glued ⟨#[]⟩ l).length ≤ _
    rw [StrLaws.glued_eq_join]
    have := StrLaws.join_length_le ⟨#[]⟩ l
    rw [e0] at this
    omega

section
variable {G : Gd} (hG : GOK G)
include hG
theorem pat36 : ∀ h, G.B h → PatAt h 36 code1 := fun h hB => ⟨_, _, _, hG.K h hB 36 _ rfl, _, _, _, hG.K h hB 35 _ rfl, rfl, by kernel_rfl⟩
theorem pat41 : ∀ h, G.B h → PatAt h 41 code2 := fun h hB => ⟨_, _, _, hG.K h hB 41 _ rfl, _, _, _, hG.K h hB 40 _ rfl, rfl, by kernel_rfl⟩

noncomputable def eolS (x : Str) : Str := Txt.join ⟨#[]⟩ (subP (f2 x.cps) x.cps "\r\n" (x.cps.size + 1) 0)
noncomputable def dotS (x : Str) : Str := Txt.join ⟨#[]⟩ (subP (f1 x.cps) x.cps ".." (x.cps.size + 1) 0)
omit hG in
theorem sub_len {x repl : Str} {code : Array Nat} {find : Nat → Option (Nat × Nat)} (hF : FindOk code x.cps find) (hr : repl.length = 2) (hx : x.length ≤ 3000) : (Txt.join ⟨#[]⟩ (subP find x.cps repl (x.cps.size + 1) 0)).length ≤ 3 * x.length ∧ JoinOk ⟨#[]⟩ (subP find x.cps repl (x.cps.size + 1) 0) = true := by
  have h : _ ≤ x.length * _ := subP_len (repl := repl) hF (x.cps.size + 1) 0 (Nat.zero_le _)
  rw [hr, Nat.mul_comm] at h
  obtain ⟨a, b⟩ := join_fits (Nat.le_trans h (Nat.le_trans (Nat.mul_le_mul_left 3 hx) (by decide)))
  exact ⟨Nat.le_trans b h, a⟩
omit hG in
theorem eolS_len (x : Str) (hx : x.length ≤ 1000) : (eolS x).length ≤ 3 * x.length ∧ JoinOk ⟨#[]⟩ (subP (f2 x.cps) x.cps "\r\n" (x.cps.size + 1) 0) = true := sub_len (f2_ok x.cps) (by kernel_rfl) (Nat.le_trans hx (by decide))
omit hG in
theorem dotS_len (x : Str) (hx : x.length ≤ 3000) : (dotS x).length ≤ 3 * x.length ∧ JoinOk ⟨#[]⟩ (subP (f1 x.cps) x.cps ".." (x.cps.size + 1) 0) = true := sub_len (f1_ok x.cps) (by kernel_rfl) hx

theorem spec_quote {x : Str} (hx : x.length ≤ 1000) {Q : D → Prop} (hQ : Q (.str (dotS (eolS x)))) : OpL G 1 (fun vs => call (.ref 48) vs) [.str x] Q := by
  obtain ⟨l1, j1⟩ := eolS_len x hx
  have hx3 : (eolS x).length ≤ 3000 := Nat.le_trans l1 (Nat.mul_le_mul_left 3 hx)
  obtain ⟨l2, j2⟩ := dotS_len (eolS x) hx3
  refine fn_spec (others := []) (F48 hG) (by kernel_rfl) rfl ?_
  ((conv => arg 5; whnf); dsimp only [sto0, List.zip, List.zipWith, List.map, List.cons_append, List.nil_append])
  ((refine se_ret ?_; (repeat (walk_at "m pe"))))
  refine pe_method ?_
  walk_at "m pe"
  refine ⟨_, meth_re (pat36 hG), ?_⟩
  (repeat (walk_at "m pe"))
  refine pe_method ?_
  walk_at "m pe"
  refine ⟨_, meth_re (pat41 hG), ?_⟩
  (repeat (walk_at "m pe"))
  refine op_sub_re (pat41 hG) (f2_ok _) (Nat.le_trans hx (by decide)) (by decide +kernel) j1 ?_
  (repeat (walk_at "m pe"))
  refine op_sub_re (pat36 hG) (f1_ok _) (Nat.le_trans hx3 (by decide)) (by decide +kernel) j2 ?_
  exact hQ
end

-- C22
set_option maxRecDepth 100000
section
variable {G : Gd} (hG : GOK G)
include hG

noncomputable def costP (x y : Str) : Int := if (x.cps.toList == y.cps.toList) = true then 0 else if ((Txt.lower x).cps.toList == (Txt.lower y).cps.toList) = true then 1 else 2
theorem spec_cost {x y : Str} (hx : x.length ≤ 1000) (hy : y.length ≤ 1000) {Q : D → Prop} (hQ : Q (.int (costP x y))) : OpL G 1 (fun vs => call (.ref 70) vs) [.str x, .str y] Q := by
  refine fn_spec (others := []) (F70 hG) (by kernel_rfl) rfl ?_
  ((conv => arg 5; whnf); dsimp only [sto0, List.zip, List.zipWith, List.map, List.cons_append, List.nil_append])
  ((refine se_if ?_; (repeat (walk_at "m pe"))))
  ((refine ⟨_, rfl, ifB ?_ ?_⟩))
  · intro hc
    ((refine se_ret ?_; (repeat (walk_at "m pe"))))
    show Q _
    unfold costP at hQ
    rw [if_pos hc] at hQ
    exact hQ
  · intro hc
    (first | (refine se_nilS ?_) | (refine se_nil (seId ?_)))
    ((refine se_if ?_; (repeat (walk_at "m pe"))))
    refine pe_method ?_
    walk_at "m pe"
    refine ⟨_, meth_str PySem.F.slot_str_lower PySem.F.type_str_lower, ?_⟩
    walk_at "m pe"
    refine op_lower (by omega) ?_
    refine pe_method ?_
    walk_at "m pe"
    refine ⟨_, meth_str PySem.F.slot_str_lower PySem.F.type_str_lower, ?_⟩
    walk_at "m pe"
    refine op_lower (by omega) ?_
    walk_at "m pe"
    unfold costP at hQ
    rw [if_neg (by rw [hc]; decide)] at hQ
    ((refine ⟨_, rfl, ifB ?_ ?_⟩))
    · intro hc2
      ((refine se_ret ?_; (repeat (walk_at "m pe"))))
      rw [if_pos hc2] at hQ
      exact hQ
    · intro hc2
      (first | (refine se_nilS ?_) | (refine se_nil (seId ?_)))
      ((refine se_ret ?_; (repeat (walk_at "m pe"))))
      rw [if_neg (by rw [hc2]; decide)] at hQ
      exact hQ
end

-- C23
set_option maxRecDepth 100000
theorem own_eq {x : Str} {l l' : List D} {r : Sto} (h : l = l') : ((x, Cell.own l) :: r : Sto) = (x, Cell.own l') :: r := by rw [h]
@[reducible] def ForO (I : Sto → Prop) (Q : Out → Prop) : Out → Prop := fun o => match o with | .next σ'' => I σ'' | .cont σ'' => I σ'' | .brk σ'' => Q (.next σ'') | .ret d => Q (.ret d)
@[reducible] def BodyK (G : Gd) (k : Nat) (sc : Scope) (a : List Stmt) (Q : Out → Prop) : Sto → Prop := fun σ' => SE G k sc σ' a Q
theorem ForL_inv {G : Gd} {k : Nat} {sc : Scope} {t : Expr} {a b : List Stmt} {Q : Out → Prop} (Inv : List D → Sto → Prop)
    (step : ∀ d rest σ, Inv (d :: rest) σ → ∀ K : Out → Prop, (∀ o, ForO (Inv rest) Q o → K o) → AE G k sc σ t d (BodyK G k sc a K))
    (fin : ∀ σ, Inv [] σ → SE G k sc σ b Q) : ∀ (items : List D) (σ : Sto), Inv items σ → ForL G k sc t a b Q items σ
  | [], σ, h => fin σ h
  | d :: rest, σ, h => by
    have hs := step d rest σ h (ForO (Inv rest) Q) fun _ x => x
    refine fun h₀ A env T I s v oa eo S r => wpAny_mono (hs h₀ A env T I s v oa eo S r) (fun _ s' ⟨T', I', σ', x, S', q⟩ => ⟨T', I', σ', x, S', q.mono fun o ho => ?_⟩) fun _ _ x => x
    cases o with
    | next σ'' => exact ForL_inv Inv step fin rest σ'' ho
    | cont σ'' => exact ForL_inv Inv step fin rest σ'' ho
    | brk σ'' => exact ho
    | ret d => exact ho
theorem ForL_range {G : Gd} {k : Nat} {sc : Scope} {t : Expr} {a b : List Stmt} {Q : Out → Prop} (x : Int) (n : Nat) (Inv : Nat → Sto → Prop)
    (step : ∀ i, i < n → ∀ σ, Inv i σ → ∀ K : Out → Prop, (∀ o, ForO (Inv (i + 1)) Q o → K o) → AE G k sc σ t (.int (x + (i : Int))) (BodyK G k sc a K))
    (fin : ∀ σ, Inv n σ → SE G k sc σ b Q) {σ : Sto} (h : Inv 0 σ) : ForL G k sc t a b Q (irange x n) σ := by
  refine ForL_inv (fun rest σ => ∃ i, i ≤ n ∧ rest = (irange x n).drop i ∧ Inv i σ) (fun d rest σ ⟨i, hi, e, hI⟩ K hK => ?_) (fun σ ⟨i, hi, e, hI⟩ => ?_) _ _ ⟨0, Nat.zero_le _, rfl, h⟩
  · have hl : (irange x n).length = n := by simp [irange]
    have hlt : i < n := by
      rcases Nat.lt_or_ge i n with h | h
      · exact h
      · rw [List.drop_eq_nil_of_le (by omega)] at e; cases e
    rw [List.drop_eq_getElem_cons (by omega)] at e
    have e1 : d = .int (x + (i : Int)) := by
      have := (List.cons.inj e).1
      rw [this]; simp [irange]
    have e2 := (List.cons.inj e).2
    subst e1
    refine step i hlt σ hI K fun o ho => hK o ?_
    cases o with
    | next σ'' => exact ⟨i + 1, hlt, e2, ho⟩
    | cont σ'' => exact ⟨i + 1, hlt, e2, ho⟩
    | brk σ'' => exact ho
    | ret d => exact ho
  · have hl : (irange x n).length = n := by simp [irange]
    have : i = n := by
      rcases Nat.lt_or_ge i n with h | h
      · rw [List.drop_eq_getElem_cons (by omega)] at e; cases e
      · omega
    subst this
    exact fin σ hI

theorem ForL_rangeF {G : Gd} {k : Nat} {sc : Scope} {t : Expr} {a b : List Stmt} {Q : Out → Prop} (x : Int) (n : Nat) (f : Nat → Int) (Inv : Nat → Sto → Prop) (hf : ∀ i : Nat, x + (i : Int) = f i) {m : Nat} (hm : m = n)
    (step : ∀ i, i < n → ∀ σ, Inv i σ → ∀ K : Out → Prop, (∀ o, ForO (Inv (i + 1)) Q o → K o) → AE G k sc σ t (.int (f i)) (BodyK G k sc a K))
    (fin : ∀ σ, Inv n σ → SE G k sc σ b Q) {σ : Sto} (h : Inv 0 σ) : ForL G k sc t a b Q (irange x m) σ := by
  subst hm
  exact ForL_range x m Inv (fun i hi σ hI K hK => by rw [hf i]; exact step i hi σ hI K hK) fin h
theorem ForL_map {α : Type} {G : Gd} {k : Nat} {sc : Scope} {t : Expr} {a b : List Stmt} {Q : Out → Prop} (g : α → D) (Inv : List α → Sto → Prop)
    (step : ∀ x rest σ, Inv (x :: rest) σ → ∀ K : Out → Prop, (∀ o, ForO (Inv rest) Q o → K o) → AE G k sc σ t (g x) (BodyK G k sc a K))
    (fin : ∀ σ, Inv [] σ → SE G k sc σ b Q) (l : List α) {σ : Sto} (h : Inv l σ) : ForL G k sc t a b Q (l.map g) σ := by
  refine ForL_inv (fun items σ => ∃ l, items = l.map g ∧ Inv l σ) (fun d rest σ ⟨l, e, hI⟩ K hK => ?_) (fun σ ⟨l, e, hI⟩ => ?_) _ _ ⟨l, rfl, h⟩
  · cases l with
    | nil => cases e
    | cons x l =>
      cases e
      exact step x l σ hI K fun o ho => hK o (by
        cases o with
        | next σ' => exact ⟨l, rfl, ho⟩
        | cont σ' => exact ⟨l, rfl, ho⟩
        | brk σ' => exact ho
        | ret d => exact ho)
  · cases l with
    | nil => exact fin σ hI
    | cons x l => cases e
/-- cells of which nothing is told -/
@[reducible] def cf (l : List Cell) : Nat → Cell := fun n => l.getD n .no

section
variable {G : Gd} (hG : GOK G)
include hG

noncomputable def pw (i j : Int) : Int := 2 ^ (gameP i j).toNat
noncomputable def tripRow (k j i : Nat) : D := .list [.int (pw i j + pw j k), .int (pw i k)]
noncomputable def tripJ (k j : Nat) : List D := (List.range j).map (tripRow k j)
noncomputable def tripK (k : Nat) : List D := (List.range (k - 1)).flatMap fun j => tripJ k (j + 1)
noncomputable def tripAll : List D := (List.range 3).flatMap fun k => tripK (k + 2)

omit hG in
theorem game_small : ∀ i < 5, ∀ j < 5, i < j → 0 ≤ gameP (i : Nat) (j : Nat) ∧ gameP (i : Nat) (j : Nat) ≤ 9 := by decide

omit hG in
theorem hl : ∀ i < 3, ∀ jj < i + 1, (((List.range i).flatMap fun k => tripK (k + 2)) ++ ((List.range jj).flatMap fun j => tripJ (i + 2) (j + 1))).length ≤ 30 := by decide +kernel

theorem spec_triples {Q : D → Prop} (hQ : Q (.list tripAll)) : OpL G 2 (fun vs => call (.ref 115) vs) [] Q := by
  refine fn_spec (others := ["triples", "k", "j", "i", "near"]) (F115 hG) (by kernel_rfl) rfl ?_
  ((conv => arg 5; whnf); dsimp only [sto0, List.zip, List.zipWith, List.map, List.cons_append, List.nil_append])
  refine se_own (by walk_at "m upd") (by intro _; rfl) ?_; (repeat (walk_at "m pe"))
  refine ⟨by decide, ?_⟩
  (first | (refine seId ?_) | (refine stR (by walk_at "m upd") ?_))
  ((refine se_for (by intro _ _; rfl) ?_))
  refine ie_range ?_
  (repeat (walk_at "m pe"))
  refine op_range2 ⟨_, _, rfl, by decide, ?_⟩
  refine ForL_range 2 3 (fun i σ => ∃ c1 c2 c3 c4, σ = [(("triples" : Str), .own ((List.range i).flatMap fun k => tripK (k + 2))), (("k" : Str), c1), (("j" : Str), c2), (("i" : Str), c3), (("near" : Str), c4)]) (fun i hi σ hI K hK => ?_) (fun σ hI => ?_) ⟨_, _, _, _, rfl⟩
  · obtain ⟨c1, c2, c3, c4, rfl⟩ := hI
    ((refine ae_nm (by walk_at "m upd") ?_))
    have ek : (2 + (i : Int)) = ((i + 2 : Nat) : Int) := by omega
    rw [ek]
    generalize hpre : ((List.range i).flatMap fun k => tripK (k + 2)) = pre
    ((refine se_for (by intro _ _; rfl) ?_))
    refine ie_range ?_
    (repeat (walk_at "m pe"))
    refine op_range2 ⟨_, _, rfl, by omega, ?_⟩
    rw [show (((i + 2 : Nat) : Int) - 1).toNat = i + 1 by omega]
    refine ForL_range 1 (i + 1) (fun jj σ => ∃ c2 c3 c4, σ = [(("triples" : Str), .own (pre ++ (List.range jj).flatMap fun j => tripJ (i + 2) (j + 1))), (("k" : Str), .imm (.int ((i + 2 : Nat) : Int))), (("j" : Str), c2), (("i" : Str), c3), (("near" : Str), c4)]) (fun jj hjj σ hI K hK => ?_) (fun σ hI => ?_) ⟨_, _, _, by rw [List.range_zero, List.flatMap_nil, List.append_nil]⟩
    · obtain ⟨c2, c3, c4, rfl⟩ := hI
      ((refine ae_nm (by walk_at "m upd") ?_))
      have ej : (1 + (jj : Int)) = ((jj + 1 : Nat) : Int) := by omega
      rw [ej]
      generalize hpre2 : pre ++ ((List.range jj).flatMap fun j => tripJ (i + 2) (j + 1)) = pre2
      ((refine se_for (by intro _ _; rfl) ?_))
      refine ie_range ?_
      (repeat (walk_at "m pe"))
      refine op_range1 ⟨_, _, rfl, by omega, ?_⟩
      rw [show (((jj + 1 : Nat) : Int) - 0).toNat = jj + 1 by omega]
      refine ForL_range 0 (jj + 1) (fun n σ => ∃ c3 c4, σ = [(("triples" : Str), .own (pre2 ++ (List.range n).map (tripRow (i + 2) (jj + 1)))), (("k" : Str), .imm (.int ((i + 2 : Nat) : Int))), (("j" : Str), .imm (.int ((jj + 1 : Nat) : Int))), (("i" : Str), c3), (("near" : Str), c4)]) (fun n hn σ hI K hK => ?_) (fun σ hI => ?_) ⟨_, _, by rw [List.range_zero, List.map_nil, List.append_nil]⟩
      · obtain ⟨c3, c4, rfl⟩ := hI
        ((refine ae_nm (by walk_at "m upd") ?_))
        have en : (0 + (n : Int)) = ((n : Nat) : Int) := by omega
        rw [en]
        have g1 := game_small n (by omega) (jj + 1) (by omega) (by omega)
        have g2 := game_small (jj + 1) (by omega) (i + 2) (by omega) (by omega)
        have g3 := game_small n (by omega) (i + 2) (by omega) (by omega)
        ((walk_at "m as0"; (repeat (walk_at "m pe"))))
        refine spec_game hG (by omega) ?_
        refine op_pow g1.1 (by omega) (by decide) ?_
        (repeat (walk_at "m pe"))
        refine spec_game hG (by omega) ?_
        refine op_pow g2.1 (by omega) (by decide) ?_
        (repeat (walk_at "m pe"))
        (first | (refine seId ?_) | (refine stR (by walk_at "m upd") ?_))
        have hlen : (pre2 ++ (List.range n).map (tripRow (i + 2) (jj + 1))).length ≤ 100000 := by
          have := hl i hi jj hjj
          rw [hpre, hpre2] at this
          simp; omega
        ((refine se_app (by walk_at "m upd") (by first | assumption | (simp; done) | (simp; omega)) rfl (by intro _; rfl) ?_))
        (repeat (walk_at "m pe"))
        refine spec_game hG (by omega) ?_
        refine op_pow g3.1 (by omega) (by decide) ?_
        (repeat (walk_at "m pe"))
        refine ⟨by simp, ?_⟩
        (first | (refine seId ?_) | (refine stR (by walk_at "m upd") ?_))
        exact se_nil (hK _ ⟨_, _, own_eq (by rw [List.range_succ, List.map_append, List.append_assoc]; rfl)⟩)
      · obtain ⟨c3, c4, rfl⟩ := hI
        (first | (refine se_nilS ?_) | (refine se_nil (seId ?_)))
        exact se_nil (hK _ ⟨_, _, _, own_eq (by rw [← hpre2]; simp [List.range_succ, tripJ])⟩)
    · obtain ⟨c2, c3, c4, rfl⟩ := hI
      (first | (refine se_nilS ?_) | (refine se_nil (seId ?_)))
      exact se_nil (hK _ ⟨_, _, _, _, own_eq (by rw [← hpre]; simp [List.range_succ, tripK])⟩)
  · obtain ⟨c1, c2, c3, c4, rfl⟩ := hI
    (first | (refine se_nilS ?_) | (refine se_nil (seId ?_)))
    ((refine se_ret ?_; (repeat (walk_at "m pe"))))
    exact hQ
end

-- C24
set_option maxRecDepth 100000
/-! ### bits -/
noncomputable def clr (n i : Nat) : Nat := 2 ^ i * (n / 2 ^ i)
theorem bit_iff (n i : Nat) : n.testBit i = decide (n / 2 ^ i % 2 = 1) := Nat.testBit_eq_decide_div_mod_eq
theorem clr_step (n i : Nat) : clr n i = clr n (i + 1) + (if n.testBit i then 2 ^ i else 0) := by
  unfold clr
  have h1 : n / 2 ^ (i + 1) = n / 2 ^ i / 2 := by rw [Nat.pow_succ, Nat.div_div_eq_div_mul]
  rw [h1, Nat.pow_succ, bit_iff]
  generalize n / 2 ^ i = q
  by_cases h : q % 2 = 1
  · rw [decide_eq_true h]
    have : q = 2 * (q / 2) + 1 := by omega
    simp only [if_true]
    conv => lhs; rw [this]
    rw [Nat.mul_add, Nat.mul_one, ← Nat.mul_assoc]
  · rw [decide_eq_false h]
    have : q = 2 * (q / 2) := by omega
    simp only [Bool.false_eq_true, if_false]
    conv => lhs; rw [this]
    rw [Nat.add_zero, ← Nat.mul_assoc]
theorem clr_and (n i : Nat) : clr n i &&& 2 ^ i = if n.testBit i then 2 ^ i else 0 := by
  have h1 : (clr n i).testBit i = n.testBit i := by
    unfold clr
    rw [Nat.testBit_two_pow_mul, Nat.sub_self, Nat.testBit_div_two_pow]
    simp
  apply Nat.eq_of_testBit_eq
  intro j
  rw [Nat.testBit_and, Nat.testBit_two_pow]
  by_cases h : i = j
  · subst h
    rw [h1]
    cases n.testBit i <;> simp
  · rw [decide_eq_false h, Bool.and_false]
    cases n.testBit i
    · simp
    · simp [Nat.testBit_two_pow, h]
theorem and_nat (a b : Nat) : Builtin.bitAnd (a : Int) (b : Int) = ((a &&& b : Nat) : Int) := by
  rw [bitAnd_pp (by omega) (by omega)]; simp
theorem xor_int_eq (a b : Int) : Builtin.bitXor a b = a + b - 2 * Builtin.bitAnd a b := by
  unfold Builtin.bitXor
  rw [bitOr_and]; omega

section
variable {G : Gd} (hG : GOK G)
include hG

noncomputable def flagTab : List (Int × PyData) := (List.range 10).map fun n => ((2 ^ n : Int), PyData.str (wordP n))
omit hG in
theorem flag_keyed (P : Params) : PyProof.Rows.KTD.keyedLook (fun b => (hd.heap_39 P).lookup b) 49 flagTab = true := by kernel_rfl
theorem flag_at : ∀ h, G.B h → PyProof.Rows.KTD.Keyed h 49 flagTab := fun h hB => kt_keyed_in (hG.K h hB) (flag_keyed _)
noncomputable def getFlag (f : Int) (x : Str) : Str := match (PyProof.Rows.KTD.datumAt f flagTab).getD (.str x) with | .str y => y | _ => x
theorem meth_get : Meth G (.val (.ref 49)) "get" "dict.get" := fun A I s v pl Q E hB hI r h => by
  rw [rep_val] at r
  subst r
  exact PyProof.Rows.KTD.getMethod_keyed (flag_at hG _ hB) (fun _ _ e => e) h
omit hG in
theorem flag_strs : ∀ p ∈ flagTab, ∃ y, p.2 = PyData.str y := by
  intro p hp
  obtain ⟨n, _, rfl⟩ := List.mem_map.mp hp
  exact ⟨_, rfl⟩
omit hG in
theorem datum_mem {f : Int} {d : PyData} : ∀ {D : List (Int × PyData)}, PyProof.Rows.KTD.datumAt f D = some d → ∃ p ∈ D, p.2 = d
  | (i, e) :: D, h => by
    unfold PyProof.Rows.KTD.datumAt at h
    split at h
    · cases h; exact ⟨_, .head _, rfl⟩
    · obtain ⟨p, hp, e⟩ := datum_mem h; exact ⟨p, .tail _ hp, e⟩
theorem op_get {k : Nat} {f : Int} {x : Str} {Q : D → Prop} (h : Q (.str (getFlag f x))) : OpL G k (fun vs => call (.builtin "dict.get") vs) [.val (.ref 49), .int f, .str x] Q := fun A I s vs oa hB hI rr => by
  obtain ⟨v, u, z, rfl, r1, r2, r3⟩ := repL_three rr
  rw [rep_val] at r1
  subst r1
  obtain ⟨t1, rfl⟩ := rep_int.mp r2
  obtain ⟨t2, rfl⟩ := rep_str.mp r3
  refine call_get2_intTab (flag_at hG _ hB G.prog G.w) (dd := .str x) (PyProof.V.Flat.str _ _) fun v hv => ?_
  rw [PyProof.Rows.KTD.lookup_keyed] at hv
  have key : ∃ t, v = .str (getFlag f x) t := by
    unfold getFlag
    cases hd : PyProof.Rows.KTD.datumAt f flagTab with
    | none => rw [hd] at hv; exact PyProof.V.Flat.str_inv hv
    | some d =>
      rw [hd] at hv
      obtain ⟨p, hp, e⟩ := datum_mem hd
      obtain ⟨y, ey⟩ := flag_strs p hp
      rw [ey] at e
      subst e
      exact PyProof.V.Flat.str_inv hv
  obtain ⟨t, rfl⟩ := key
  exact Res.one (Grow.tok hI _) (rep_str.mpr ⟨t, rfl⟩) h
omit hG in
theorem flag_word : ∀ i < 32, getFlag (2 ^ i : Nat) (baseText "0x" 16 (2 ^ i : Nat)) = wordP i := by decide +kernel
end

-- C25
set_option maxRecDepth 100000
section
variable {G : Gd} (hG : GOK G)
include hG

noncomputable def wordsTo (n i : Nat) : List Str := ((List.range i).filter (n.testBit ·)).map wordP
noncomputable def prettyL (n : Nat) : List Str := wordsTo n 32 ++ (if n = 0 ∨ 2 ^ 32 ≤ n then [baseText "0x" 16 (clr n 32 : Nat)] else [])
omit hG in
theorem wordsTo_succ (n i : Nat) : wordsTo n (i + 1) = wordsTo n i ++ (if n.testBit i then [wordP i] else []) := by
  unfold wordsTo
  rw [List.range_succ, List.filter_append, List.map_append]
  cases h : n.testBit i <;> simp [h]
omit hG in
theorem wordsTo_len (n i : Nat) : (wordsTo n i).length ≤ i := by
  unfold wordsTo
  rw [List.length_map]
  exact Nat.le_trans (List.length_filter_le _ _) (by simp)
omit hG in
theorem wordsTo_end {n : Nat} (i : Nat) (h : n < 2 ^ i) : ∀ j, wordsTo n (i + j) = wordsTo n i
  | 0 => rfl
  | j + 1 => by
    rw [← Nat.add_assoc, wordsTo_succ, wordsTo_end i h j]
    have : n.testBit (i + j) = false := Nat.testBit_lt_two_pow (Nat.lt_of_lt_of_le h (Nat.pow_le_pow_right (by omega) (by omega)))
    rw [this]; simp
omit hG in
theorem hex_len : ∀ i < 32, (baseText "0x" 16 (2 ^ i : Nat)).length ≤ sizeLine := by decide +kernel
omit hG in
theorem hex_top : ∀ q < 4, (baseText "0x" 16 (2 ^ 32 * q : Nat)).length ≤ sizeLine := by decide +kernel

theorem spec_pretty {n : Nat} (hn : n < 2 ^ 34) (hj : JoinOk ", " (prettyL n) = true) {Q : D → Prop} (hQ : Q (.str (Txt.join ", " (prettyL n)))) : OpL G 1 (fun vs => call (.ref 56) vs) [.int n] Q := by
  have fin : ∀ (l : List Str) (d : D) (c1 c2 : Cell), JoinOk ", " l = true → Q (.str (Txt.join ", " l)) → SE G 0 (scopeIn (KP G) 56) [(("flags" : Str), .imm d), (("names" : Str), .own (l.map D.str)), (("i" : Str), c1), (("flag" : Str), c2)]
      ((bodyIn (KP G) 56).drop 2) (endQ Q) := by
    intro l d c1 c2 h1 h2
    conv => arg 5; whnf
    ((refine se_ret ?_; (repeat (walk_at "m pe"))))
    refine pe_method ?_
    walk_at "m pe"
    refine ⟨_, meth_str PySem.F.slot_str_join PySem.F.type_str_join, ?_⟩
    (repeat (walk_at "m pe"))
    exact op_join h1 h2
  refine fn_spec (others := ["names", "i", "flag"]) (F56 hG) (by kernel_rfl) rfl ?_
  ((conv => arg 5; whnf); dsimp only [sto0, List.zip, List.zipWith, List.map, List.cons_append, List.nil_append])
  refine se_own (by walk_at "m upd") (by intro _; rfl) ?_; (repeat (walk_at "m pe"))
  refine ⟨by decide, ?_⟩
  (first | (refine seId ?_) | (refine stR (by walk_at "m upd") ?_))
  ((refine se_for (by intro _ _; rfl) ?_))
  refine ie_range ?_
  (repeat (walk_at "m pe"))
  refine op_range1 ⟨_, _, rfl, by decide, ?_⟩
  refine ForL_range 0 32 (fun i σ => (n = 0 ∨ 2 ^ i ≤ n) ∧ ∃ c1 c2, σ = [(("flags" : Str), .imm (.int (clr n i : Nat))), (("names" : Str), .own ((wordsTo n i).map D.str)), (("i" : Str), c1), (("flag" : Str), c2)]) (fun i hi σ hI K hK => ?_) (fun σ hI => ?_) ⟨by omega, .no, .no, by simp [clr, wordsTo]⟩
  · obtain ⟨hpos, c1, c2, rfl⟩ := hI
    ((refine ae_nm (by walk_at "m upd") ?_))
    ((walk_at "m as0"; (repeat (walk_at "m pe"))))
    refine op_lshift (by omega) (by omega) (by decide) ?_
    (first | (refine seId ?_) | (refine stR (by walk_at "m upd") ?_))
    have ef : (1 * 2 ^ (0 + (i : Int)).toNat : Int) = ((2 ^ i : Nat) : Int) := by
      rw [show (0 + (i : Int)).toNat = i by omega]; simp
    rw [ef]
    ((refine se_if ?_; (repeat (walk_at "m pe"))))
    rw [and_nat, clr_and]
    cases hb : n.testBit i with
    | false =>
      have e1 : clr n (i + 1) = clr n i := by have := clr_step n i; rw [hb] at this; simpa using this.symm
      have e2 : wordsTo n (i + 1) = wordsTo n i := by rw [wordsTo_succ, hb]; simp
      have hp : n = 0 ∨ 2 ^ (i + 1) ≤ n := by
        rcases hpos with h | h
        · exact .inl h
        · refine .inr ?_
          rcases Nat.lt_or_ge n (2 ^ (i + 1)) with h2 | h2
          · rw [Nat.pow_succ] at h2
            have : n / 2 ^ i = 1 := by
              apply Nat.div_eq_of_lt_le <;> omega
            rw [bit_iff, this] at hb
            exact absurd hb (by decide)
          · exact h2
      refine ifF (by simp) ?_
      (first | (refine se_nilS ?_) | (refine se_nil (seId ?_)))
      exact se_nil (hK _ ⟨hp, _, _, by rw [e1, e2]⟩)
    | true =>
      have hpi : 0 < 2 ^ i := Nat.pow_pos (by omega)
      refine ifT (by simp only [if_true, bne_iff_ne, ne_eq]; omega) ?_
      have hlen : ((wordsTo n i).map D.str).length ≤ 100000 := by have := wordsTo_len n i; rw [List.length_map]; omega
      ((refine se_app (by walk_at "m upd") (by first | assumption | (simp; done) | (simp; omega)) rfl (by intro _; rfl) ?_))
      refine pe_method ?_
      walk_at "m pe"
      refine ⟨_, meth_get hG, ?_⟩
      (repeat (walk_at "m pe"))
      refine op_hex (hex_len i hi) ?_
      (repeat (walk_at "m pe"))
      refine op_get hG ?_
      rw [flag_word i hi]
      (first | (refine seId ?_) | (refine stR (by walk_at "m upd") ?_))
      have e2 : (wordsTo n i).map D.str ++ [D.str (wordP i)] = (wordsTo n (i + 1)).map D.str := by rw [wordsTo_succ, hb]; simp
      rw [e2]
      refine se_aug (by walk_at "m upd") ?_; (repeat (walk_at "m pe"))
      refine op_ixor ⟨.int _, ?_⟩
      have ex : Builtin.bitXor (clr n i : Nat) (2 ^ i : Nat) = (clr n (i + 1) : Nat) := by
        rw [xor_int_eq, and_nat, clr_and, hb]
        have := clr_step n i
        rw [hb] at this
        simp only [if_true] at this ⊢
        omega
      rw [ex]
      (first | (refine seId ?_) | (refine stR (by walk_at "m upd") ?_))
      ((refine se_if ?_; (repeat (walk_at "m pe"))))
      refine ifB ?_ ?_
      · intro hc
        have h0 : clr n (i + 1) = 0 := by simpa using hc
        have hlt : n < 2 ^ (i + 1) := by
          unfold clr at h0
          rcases Nat.mul_eq_zero.mp h0 with h | h
          · exact absurd h (Nat.ne_of_gt (Nat.pow_pos (by omega)))
          · exact Nat.lt_of_div_eq_zero (Nat.pow_pos (by omega)) h
        have hlt32 : n < 2 ^ 32 := Nat.lt_of_lt_of_le hlt (Nat.pow_le_pow_right (by omega) (by omega))
        have hn0 : n ≠ 0 := fun h => by rw [h] at hb; simp at hb
        have ep : prettyL n = wordsTo n (i + 1) := by
          unfold prettyL
          rw [if_neg (by omega), List.append_nil]
          have := wordsTo_end (i + 1) hlt (31 - i)
          rwa [show i + 1 + (31 - i) = 32 by omega] at this
        rw [ep] at hj hQ
        refine se_cons (s_break (hK _ ?_))
        (first | (refine seId ?_) | (refine stR (by walk_at "m upd") ?_))
        exact fin _ _ _ _ hj hQ
      · intro hc
        have h0 : clr n (i + 1) ≠ 0 := by simpa using hc
        have hp : n = 0 ∨ 2 ^ (i + 1) ≤ n := by
          refine .inr ?_
          rcases Nat.lt_or_ge n (2 ^ (i + 1)) with h2 | h2
          · exact absurd (by unfold clr; rw [Nat.div_eq_of_lt h2, Nat.mul_zero]) h0
          · exact h2
        (first | (refine se_nilS ?_) | (refine se_nil (seId ?_)))
        (first | (refine se_nilS ?_) | (refine se_nil (seId ?_)))
        exact se_nil (hK _ ⟨hp, _, _, rfl⟩)
  · obtain ⟨hpos, c1, c2, rfl⟩ := hI
    have hlen : ((wordsTo n 32).map D.str).length ≤ 100000 := by have := wordsTo_len n 32; rw [List.length_map]; omega
    ((refine se_app (by walk_at "m upd") (by first | assumption | (simp; done) | (simp; omega)) rfl (by intro _; rfl) ?_))
    (repeat (walk_at "m pe"))
    have hq : n / 2 ^ 32 < 4 := by omega
    refine op_hex (hex_top _ hq) ?_
    (first | (refine seId ?_) | (refine stR (by walk_at "m upd") ?_))
    (first | (refine se_nilS ?_) | (refine se_nil (seId ?_)))
    have ep : prettyL n = wordsTo n 32 ++ [baseText "0x" 16 (clr n 32 : Nat)] := by
      unfold prettyL; rw [if_pos (by omega)]
    rw [ep] at hj hQ
    rw [show (wordsTo n 32).map D.str ++ [D.str (baseText "0x" 16 ((clr n 32 : Nat) : Int))] = (wordsTo n 32 ++ [baseText "0x" 16 (clr n 32 : Nat)]).map D.str by simp]
    exact fin _ _ _ _ hj hQ
end

-- C26
set_option maxRecDepth 100000
noncomputable def rowD (p : Int × Int) : D := .list [.int p.1, .int p.2]
noncomputable def tripZ : List (Int × Int) := (List.range 3).flatMap fun k => (List.range (k + 1)).flatMap fun j => (List.range (j + 1)).map fun (i : Nat) => (pw i (j + 1 : Nat) + pw (j + 1 : Nat) (k + 2 : Nat), pw i (k + 2 : Nat))
theorem tripAll_eq : tripAll = tripZ.map rowD := by kernel_rfl

noncomputable def ringStep (here : Int) (fr : List Int × Int) (p : Int × Int) : List Int × Int :=
  if ([p.1, p.2].any (· == Builtin.bitAnd here (p.1 + p.2))) = true then
    (if (!fr.1.any (· == Builtin.bitXor here (p.1 + p.2))) = true then fr.1 ++ [Builtin.bitXor here (p.1 + p.2)] else fr.1, fr.2 + 1)
  else fr
noncomputable def turnStep (st : List Int × List Int) : List Int × List Int :=
  let fr := tripZ.foldl (ringStep (st.1.getD st.2.length 0)) (st.1, 0)
  (fr.1, st.2 ++ [fr.2])
noncomputable def loopP : Nat → List Int × List Int → Option (List Int × List Int)
  | 0, st => if st.2.length < st.1.length then none else some st
  | f + 1, st => if st.2.length < st.1.length then (if (turnStep st).1.length < 64 then loopP f (turnStep st) else none) else some st
theorem loopP_eq (f : Nat) (st : List Int × List Int) (R : List Int × List Int) (h : loopP f st = some R) : (¬ st.2.length < st.1.length ∧ R = st) ∨ (st.2.length < st.1.length ∧ ∃ g, f = g + 1 ∧ (turnStep st).1.length < 64 ∧ loopP g (turnStep st) = some R) := by
  cases f with
  | zero =>
    unfold loopP at h
    split at h
    · cases h
    · rename_i h1; exact .inl ⟨h1, (Option.some.inj h).symm⟩
  | succ g =>
    unfold loopP at h
    split at h
    · rename_i h1
      split at h
      · rename_i h2; exact .inr ⟨h1, g, rfl, h2, h⟩
      · cases h
    · rename_i h1; exact .inl ⟨h1, (Option.some.inj h).symm⟩

section
variable {G : Gd} (hG : GOK G)
include hG
theorem spec_turned {n : Int} {R : List Int × List Int} (hR : loopP 40 ([n], []) = some R) (hR2 : R.1.length < 64) {Q : D → Prop}
    (hQ : ∀ ns : List Int, ns.Perm R.1 → ns.Pairwise (· ≤ ·) → Q (.list [.list (ns.map D.int), .list (R.2.map D.int)])) : OpL G 3 (fun vs => call (.ref 122) vs) [.int n] Q := by
  refine fn_spec (others := ["triples", "found", "counts", "here", "rings", "near", "far"]) (F122 hG) (by kernel_rfl) rfl ?_
  ((conv => arg 5; whnf); dsimp only [sto0, List.zip, List.zipWith, List.map, List.cons_append, List.nil_append])
  ((walk_at "m as0"; (repeat (walk_at "m pe"))))
  refine spec_triples hG ?_
  rw [tripAll_eq]
  (first | (refine seId ?_) | (refine stR (by walk_at "m upd") ?_))
  refine se_own (by walk_at "m upd") (by intro _; rfl) ?_; (repeat (walk_at "m pe"))
  refine ⟨by simp, ?_⟩
  (first | (refine seId ?_) | (refine stR (by walk_at "m upd") ?_))
  refine se_own (by walk_at "m upd") (by intro _; rfl) ?_; (repeat (walk_at "m pe"))
  refine ⟨by simp, ?_⟩
  (first | (refine seId ?_) | (refine stR (by walk_at "m upd") ?_))
  refine se_cons (s_while (fun f σ => ∃ st c1 c2 c3 c4, loopP f st = some R ∧ st.1.length < 64 ∧ st.2.length < 64 ∧ σ = [(("number" : Str), .imm (.int n)), (("triples" : Str), .imm (.list (tripZ.map rowD))), (("found" : Str), .own (st.1.map D.int)), (("counts" : Str), .own (st.2.map D.int)), (("here" : Str), c1), (("rings" : Str), c2), (("near" : Str), c3), (("far" : Str), c4)]) 40 ⟨([n], []), .no, .no, .no, .no, hR, by simp, by simp, rfl⟩ (fun f σ hI K hK => ?_))
  obtain ⟨st, c1, c2, c3, c4, hl, hb1, hb2, rfl⟩ := hI
  (repeat (walk_at "m pe"))
  refine op_len_list (by rw [List.length_map]; omega) ?_
  (repeat (walk_at "m pe"))
  refine op_len_list (by rw [List.length_map]; omega) ?_
  (repeat (walk_at "m pe"))
  rw [List.length_map, List.length_map]
  ((refine ⟨_, rfl, ifB ?_ ?_⟩))
  · intro hc
    have hc : st.2.length < st.1.length := by simp at hc; omega
    rcases loopP_eq f st R hl with ⟨h1, _⟩ | ⟨_, g, rfl, h3, h4⟩
    · exact absurd hc h1
    refine se_asgF (by intro _; rfl) ?_; (repeat (walk_at "m pe"))
    refine op_len_list (by rw [List.length_map]; omega) ?_
    rw [List.length_map]
    refine op_item_list (d := .int (st.1.getD st.2.length 0)) (by omega) (by simp [List.getD, hc]) ?_
    refine ⟨.int _, ?_⟩
    (first | (refine seId ?_) | (refine stR (by walk_at "m upd") ?_))
    ((walk_at "m as0"; (repeat (walk_at "m pe"))))
    (first | (refine seId ?_) | (refine stR (by walk_at "m upd") ?_))
    generalize hhere : st.1.getD st.2.length 0 = here
    ((refine se_for (by intro _ _; rfl) ?_))
    refine ie_list ?_
    (repeat (walk_at "m pe"))
    refine ⟨_, rfl, ?_⟩
    refine ForL_inv (fun items σ => ∃ rest fr c3 c4, items = rest.map rowD ∧ rest.foldl (ringStep here) fr = tripZ.foldl (ringStep here) (st.1, 0) ∧ fr.1.length + rest.length < 80 ∧ σ = [(("number" : Str), .imm (.int n)), (("triples" : Str), .imm (.list (tripZ.map rowD))), (("found" : Str), .own (fr.1.map D.int)), (("counts" : Str), .own (st.2.map D.int)), (("here" : Str), .imm (.int here)), (("rings" : Str), .imm (.int fr.2)), (("near" : Str), c3), (("far" : Str), c4)]) (fun d rest' σ hI K hK => ?_) (fun σ hI => ?_) _ _ ⟨tripZ, (st.1, 0), _, _, rfl, rfl, ?_, rfl⟩
    · obtain ⟨rest, fr, c3, c4, e1, e2, e3, rfl⟩ := hI
      cases rest with
      | nil => cases e1
      | cons p rest =>
        cases e1
        have hlen : (fr.1.map D.int).length ≤ 100000 := by rw [List.length_map]; simp at e3; omega
        refine ae_pair (IsSeq.list _) ?_
        ((refine ae_nm (by walk_at "m upd") ?_))
        ((refine ae_nm (by walk_at "m upd") ?_))
        ((refine se_if ?_; (repeat (walk_at "m pe"))))
        refine ⟨by simp, ?_⟩
        refine op_in_ints (ns := [p.1, p.2]) (IsSeq.tup _) ?_
        ((refine ⟨_, rfl, ifB ?_ ?_⟩))
        · intro hc1
          ((walk_at "m as0"; (repeat (walk_at "m pe"))))
          (first | (refine seId ?_) | (refine stR (by walk_at "m upd") ?_))
          ((refine se_if ?_; (repeat (walk_at "m pe"))))
          refine op_xor ?_
          (repeat (walk_at "m pe"))
          refine op_notin_ints ?_
          ((refine ⟨_, rfl, ifB ?_ ?_⟩))
          · intro hc2
            ((refine se_app (by walk_at "m upd") (by first | assumption | (simp; done) | (simp; omega)) rfl (by intro _; rfl) ?_))
            (repeat (walk_at "m pe"))
            refine op_xor (stR_own (ds' := (fr.1 ++ [Builtin.bitXor here (p.1 + p.2)]).map D.int) (by simp) (by walk_at "m upd") ?_)
            (first | (refine se_nilS ?_) | (refine se_nil (seId ?_)))
            (first | (refine se_nilS ?_) | (refine se_nil (seId ?_)))
            refine se_nil (hK _ ⟨rest, (fr.1 ++ [Builtin.bitXor here (p.1 + p.2)], fr.2 + 1), _, _, rfl, ?_, ?_, rfl⟩)
            · rw [← e2, List.foldl_cons, show ringStep here fr p = (fr.1 ++ [Builtin.bitXor here (p.1 + p.2)], fr.2 + 1) by unfold ringStep; rw [if_pos hc1, if_pos hc2]]
            · simp at e3 ⊢; omega
          · intro hc2
            (first | (refine se_nilS ?_) | (refine se_nil (seId ?_)))
            (first | (refine se_nilS ?_) | (refine se_nil (seId ?_)))
            refine se_nil (hK _ ⟨rest, (fr.1, fr.2 + 1), _, _, rfl, ?_, ?_, rfl⟩)
            · rw [← e2, List.foldl_cons, show ringStep here fr p = (fr.1, fr.2 + 1) by unfold ringStep; rw [if_pos hc1, if_neg (by rw [hc2]; decide)]]
            · simp at e3 ⊢; omega
        · intro hc1
          (first | (refine se_nilS ?_) | (refine se_nil (seId ?_)))
          refine se_nil (hK _ ⟨rest, fr, _, _, rfl, ?_, ?_, rfl⟩)
          · rw [← e2, List.foldl_cons, show ringStep here fr p = fr by unfold ringStep; rw [if_neg (by rw [hc1]; decide)]]
          · simp at e3 ⊢; omega
    · obtain ⟨rest, fr, c3, c4, e1, e2, e3, rfl⟩ := hI
      cases rest with
      | cons p rest => cases e1
      | nil =>
        have et : turnStep st = (fr.1, st.2 ++ [fr.2]) := by
          unfold turnStep
          rw [hhere, ← e2]; rfl
        rw [et] at h3 h4
        (first | (refine se_nilS ?_) | (refine se_nil (seId ?_)))
        have hlen : (st.2.map D.int).length ≤ 100000 := by rw [List.length_map]; omega
        ((refine se_app (by walk_at "m upd") (by first | assumption | (simp; done) | (simp; omega)) rfl (by intro _; rfl) ?_))
        (repeat (walk_at "m pe"))
        have em : st.2.map D.int ++ [D.int fr.2] = (st.2 ++ [fr.2]).map D.int := by simp
        (first | (refine seId ?_) | (refine stR (by walk_at "m upd") ?_))
        rw [em]
        refine se_nil (hK _ ⟨g, by omega, (fr.1, st.2 ++ [fr.2]), _, _, _, _, h4, h3, ?_, rfl⟩)
        simp; omega
    · have : tripZ.length = 10 := by kernel_rfl
      rw [this]; show st.1.length + 10 < 80; omega
  · intro hc
    have hc : ¬ st.2.length < st.1.length := by simp at hc; omega
    rcases loopP_eq f st R hl with ⟨_, rfl⟩ | ⟨h1, _⟩
    · (first | (refine se_nilS ?_) | (refine se_nil (seId ?_)))
      ((refine se_ret ?_; (repeat (walk_at "m pe"))))
      refine op_sorted hb1 fun ns h1 h2 => ?_
      (repeat (walk_at "m pe"))
      refine ⟨by simp, ?_⟩
      exact hQ ns h1 h2
    · exact absurd h1 hc
end

-- C27
set_option maxRecDepth 100000
noncomputable def putGame (i j pl : Nat) (num left : Int) (g : List (Int × Int)) (b : Int × Nat) : List (Int × Int) :=
  if decide ((left.fdiv (16 ^ b.2)).fmod 16 > 0) = true then
    (if (decide ((j : Int) < 4) || (((left - 16 ^ b.2).fdiv (16 ^ i)).fmod 16 == 0)) = true then g ++ [(num + b.1 * 2 ^ pl, left - 16 ^ b.2)] else g)
  else g
noncomputable def roundOne (i j pl : Nat) (rs : List (Int × Int)) : List (Int × Int) := rs.foldl (fun g p => [((0 : Int), i), (1, j)].foldl (putGame i j pl p.1 p.2) g) []
noncomputable def gamesZ : List (Nat × Nat) := (List.range 5).flatMap fun i => (List.range (4 - i)).map fun j => (i, i + 1 + j)
noncomputable def roundsAll (wins : Int) : List (Int × Int) × Nat := gamesZ.foldl (fun st ij => (roundOne ij.1 ij.2 st.2 st.1, st.2 + 1)) ([(0, wins)], 0)
noncomputable def roundsP (wins : Int) : List Int := ((roundsAll wins).1.filter fun p => p.2 == 0).map (·.1)

theorem pow16 : ∀ w < 5, (16 ^ w : Int) ≠ 0 ∧ (16 ^ w : Int).natAbs < 1073741824 := by decide
theorem putGame_len (i j pl : Nat) (num left : Int) (g : List (Int × Int)) (b : Int × Nat) : (putGame i j pl num left g b).length ≤ g.length + 1 := by
  unfold putGame
  split
  · split <;> simp
  · simp

theorem tgt_capt {scope sc : Scope} {ρ : List (Str × D)} {bs : List (Str × D)} (h : (bs.all (fun b => (relS scope sc).names.lookup b.1 == some .local && !(b.1 == ("__debug__" : Str)) && !decide (scope.names.lookup b.1 = some .free)) && decide (bs.map Prod.fst).Nodup) = true) :
    tgtOk (relS scope sc) (capt scope sc ρ) bs = true := by
  unfold tgtOk
  simp only [Bool.and_eq_true, List.all_eq_true, Bool.not_eq_true', decide_eq_false_iff_not, decide_eq_true_eq] at h ⊢
  refine ⟨fun b hb => ?_, h.2⟩
  obtain ⟨⟨h1, h2⟩, h3⟩ := h.1 b hb
  refine ⟨⟨h1, h2⟩, ?_⟩
  rw [List.contains_eq_mem, decide_eq_false_iff_not]
  intro hm
  obtain ⟨p, hp, e⟩ := List.mem_map.mp hm
  have := (List.mem_filter.mp hp).2
  simp only [Bool.and_eq_true, decide_eq_true_eq] at this
  rw [e] at this
  exact h3 this.1
theorem tgt_capt2 {scope sc : Scope} {ρ : List (Str × D)} {bs bs' : List (Str × D)} (h : (bs.all (fun b => (relS scope sc).names.lookup b.1 == some .local && !(b.1 == ("__debug__" : Str)) && !decide (scope.names.lookup b.1 = some .free) && !(bs'.map Prod.fst).contains b.1) && decide (bs.map Prod.fst).Nodup) = true) :
    tgtOk (relS scope sc) (bs' ++ capt scope sc ρ) bs = true := by
  have h0 : tgtOk (relS scope sc) (capt scope sc ρ) bs = true := tgt_capt (by
    simp only [Bool.and_eq_true, List.all_eq_true] at h ⊢
    exact ⟨fun b hb => (h.1 b hb).1, h.2⟩)
  unfold tgtOk at h0 ⊢
  simp only [Bool.and_eq_true, List.all_eq_true, Bool.not_eq_true'] at h h0 ⊢
  refine ⟨fun b hb => ?_, h.2⟩
  obtain ⟨⟨k1, k2⟩, k3⟩ := h0.1 b hb
  have k4 := (h.1 b hb).2
  refine ⟨⟨k1, k2⟩, ?_⟩
  rw [List.contains_eq_mem, decide_eq_false_iff_not] at k3 k4 ⊢
  rw [List.map_append, List.mem_append]
  exact fun q => q.elim k4 k3

theorem CompL_fold {G : Gd} {k : Nat} {sc : Scope} {ρ : List (Str × D)} {target elt : Expr} {ifs : List Expr} {K : List D → Prop} {α : Type} (f : α → D) (p : α → Bool) (g : α → D) :
    ∀ (items : List α) (acc : List D), (∀ a ∈ items, ∀ (next : List D → Prop) acc, acc.length < 100000 → (if p a = true then next (acc ++ [g a]) else next acc) → stepL G k sc ρ target ifs elt (f a) next acc) →
      items.length + acc.length < 100000 → K (acc ++ (items.filter p).map g) → CompL G k sc ρ target ifs elt K (items.map f) acc
  | [], acc, _, _, hK => by simpa [CompL] using hK
  | a :: r, acc, hs, hl, hK => by
    show stepL G k sc ρ target ifs elt (f a) (CompL G k sc ρ target ifs elt K (r.map f)) acc
    refine hs a (.head _) _ acc (by simp at hl; omega) ?_
    cases hp : p a with
    | true =>
      refine ifT rfl ?_
      refine CompL_fold f p g r (acc ++ [g a]) (fun b hb => hs b (.tail _ hb)) (by simp at hl ⊢; omega) ?_
      simpa [List.filter_cons, hp] using hK
    | false =>
      refine ifF rfl ?_
      refine CompL_fold f p g r acc (fun b hb => hs b (.tail _ hb)) (by simp at hl; omega) ?_
      simpa [List.filter_cons, hp] using hK

theorem rd10 : ∀ i < 5, ((List.range i).map fun i => 4 - i).sum + (4 - i) ≤ 10 := by decide
theorem put_snoc (g : List (Int × Int)) (q : Int × Int) : g.map rowD ++ [D.list [.int q.1, .int q.2]] = (g ++ [q]).map rowD := by simp [rowD]
theorem put_yes {i j pl : Nat} {num left : Int} {g : List (Int × Int)} {b : Int × Nat} (h1 : decide ((left.fdiv (16 ^ b.2)).fmod 16 > 0) = true) (h2 : (decide ((j : Int) < 4) || (((left - 16 ^ b.2).fdiv (16 ^ i)).fmod 16 == 0)) = true) :
    putGame i j pl num left g b = g ++ [(num + b.1 * 2 ^ pl, left - 16 ^ b.2)] := by unfold putGame; rw [if_pos h1, if_pos h2]
theorem put_no {i j pl : Nat} {num left : Int} {g : List (Int × Int)} {b : Int × Nat} (h : decide ((left.fdiv (16 ^ b.2)).fmod 16 > 0) = false ∨ (decide ((j : Int) < 4) = false ∧ (((left - 16 ^ b.2).fdiv (16 ^ i)).fmod 16 == 0) = false)) :
    putGame i j pl num left g b = g := by
  unfold putGame
  rcases h with h | ⟨h1, h2⟩
  · rw [if_neg (by rw [h]; decide)]
  · rw [h1, h2]
    split
    · rfl
    · rfl
theorem put_end {i j pl : Nat} {num left : Int} {g g' R : List (Int × Int)} {b : Int × Nat} {bs : List (Int × Nat)} {n : Nat} {x y : D} {c0 c1 c2 : Cell} {wins rounds place : Cell} {ci cj : Cell} (e5 : ∀ x ∈ b :: bs, 0 ≤ x.1 ∧ x.1 ≤ 1 ∧ x.2 < 5)
    (e6 : (b :: bs).foldl (putGame i j pl num left) g = R) (e7 : g.length + (b :: bs).length ≤ n) (e : putGame i j pl num left g b = g') (hl : g'.length ≤ g.length + 1) :
    ∃ g2, ∃ cs : Nat → Cell, (∀ b ∈ bs, 0 ≤ b.1 ∧ b.1 ≤ 1 ∧ b.2 < 5) ∧ bs.foldl (putGame i j pl num left) g2 = R ∧ g2.length + bs.length ≤ n ∧
      ([(("wins" : Str), wins), (("rounds" : Str), rounds), (("place" : Str), place), (("i" : Str), ci), (("j" : Str), cj), (("grown" : Str), .own (g'.map rowD)), (("number" : Str), .imm x), (("left" : Str), .imm y), (("bit" : Str), c0), (("who" : Str), c1), (("rest" : Str), c2)] : Sto) =
        [(("wins" : Str), wins), (("rounds" : Str), rounds), (("place" : Str), place), (("i" : Str), ci), (("j" : Str), cj), (("grown" : Str), .own (g2.map rowD)), (("number" : Str), .imm x), (("left" : Str), .imm y), (("bit" : Str), cs 0), (("who" : Str), cs 1), (("rest" : Str), cs 2)] :=
  ⟨g', cf [c0, c1, c2], fun x hx => e5 x (.tail _ hx), by rw [← e6, List.foldl_cons, e], by simp at e7; omega, rfl⟩

section
variable {G : Gd} (hG : GOK G)
include hG
theorem spec_rounds {wins : Int} (hR : (roundsP wins).length < 64) {Q : D → Prop}
    (hQ : ∀ ns : List Int, ns.Perm (roundsP wins) → ns.Pairwise (· ≤ ·) → Q (.list (ns.map D.int))) : OpL G 2 (fun vs => call (.ref 127) vs) [.int wins] Q := by
  refine fn_spec (others := ["rounds", "place", "i", "j", "grown", "number", "left", "bit", "who", "rest"]) (F127 hG) (by kernel_rfl) rfl ?_
  ((conv => arg 5; whnf); dsimp only [sto0, List.zip, List.zipWith, List.map, List.cons_append, List.nil_append])
  ((walk_at "m as0"; (repeat (walk_at "m pe"))))
  refine ⟨by simp, ?_⟩
  (repeat (walk_at "m pe"))
  refine ⟨by simp, ?_⟩
  (first | (refine seId ?_) | (refine stR (by walk_at "m upd") ?_))
  ((walk_at "m as0"; (repeat (walk_at "m pe"))))
  ((refine se_for (by intro _ _; rfl) ?_))
  refine ie_range ?_
  (repeat (walk_at "m pe"))
  refine op_range1 ⟨_, _, rfl, by decide, ?_⟩
  refine ForL_rangeF 0 5 (fun i => ((i : Nat) : Int)) (fun i σ => ∃ rs pl, ∃ cs : Nat → Cell, ((List.range i).flatMap fun i => (List.range (4 - i)).map fun j => (i, i + 1 + j)).foldl (fun st ij => (roundOne ij.1 ij.2 st.2 st.1, st.2 + 1)) ([(0, wins)], 0) = (rs, pl) ∧ rs.length ≤ 2 ^ pl ∧
    pl = ((List.range i).map fun i => 4 - i).sum ∧ σ = [(("wins" : Str), .imm (.int wins)), (("rounds" : Str), .imm (.list (rs.map rowD))), (("place" : Str), .imm (.int (pl : Nat))), (("i" : Str), cs 0), (("j" : Str), cs 1), (("grown" : Str), cs 2), (("number" : Str), cs 3), (("left" : Str), cs 4), (("bit" : Str), cs 5), (("who" : Str), cs 6), (("rest" : Str), cs 7)])
    (fun i => Int.zero_add _) rfl (fun i hi σ hI K hK => ?_) (fun σ hI => ?_) ⟨[(0, wins)], 0, cf [_, _, _, _, _, _, _, _], rfl, by simp, by simp, rfl⟩
  · obtain ⟨rs, pl, cs, hf, hlen, hpl, rfl⟩ := hI
    have hp : pl + (4 - i) ≤ 10 := by rw [hpl]; exact rd10 i hi
    generalize hst : ((List.range i).flatMap fun i => (List.range (4 - i)).map fun j => (i, i + 1 + j)).foldl (fun st ij => (roundOne ij.1 ij.2 st.2 st.1, st.2 + 1)) ([(0, wins)], 0) = st0 at hf
    subst hf
    ((refine ae_nm (by walk_at "m upd") ?_))
    ((refine se_for (by intro _ _; rfl) ?_))
    refine ie_range ?_
    (repeat (walk_at "m pe"))
    refine op_range2 ⟨_, _, rfl, by omega, ?_⟩
    refine ForL_rangeF ((i : Int) + 1) (4 - i) (fun jj => ((i + 1 + jj : Nat) : Int)) (fun jj σ => ∃ rs' pl', ∃ cs : Nat → Cell, ((List.range jj).map fun j => (i, i + 1 + j)).foldl (fun st ij => (roundOne ij.1 ij.2 st.2 st.1, st.2 + 1)) (rs, pl) = (rs', pl') ∧ rs'.length ≤ 2 ^ pl' ∧
      pl' = pl + jj ∧ σ = [(("wins" : Str), .imm (.int wins)), (("rounds" : Str), .imm (.list (rs'.map rowD))), (("place" : Str), .imm (.int (pl' : Nat))), (("i" : Str), .imm (.int (i : Nat))), (("j" : Str), cs 0), (("grown" : Str), cs 1), (("number" : Str), cs 2), (("left" : Str), cs 3), (("bit" : Str), cs 4), (("who" : Str), cs 5), (("rest" : Str), cs 6)])
      (fun jj => rfl) (by omega) (fun jj hjj σ hI K hK => ?_) (fun σ hI => ?_) ⟨rs, pl, cf [_, _, _, _, _, _, _], rfl, hlen, rfl, rfl⟩
    · obtain ⟨rs', pl', cs, hf2, hlen', hpl2, rfl⟩ := hI
      clear hst
      generalize hj : i + 1 + jj = j
      have hj5 : j < 5 := by omega
      have hsmall : 2 ^ pl' ≤ 1024 := Nat.pow_le_pow_right (by omega : 0 < 2) (by omega : pl' ≤ 10)
      ((refine ae_nm (by walk_at "m upd") ?_))
      refine se_own (by walk_at "m upd") (by intro _; rfl) ?_; (repeat (walk_at "m pe"))
      refine ⟨by simp, ?_⟩
      (first | (refine seId ?_) | (refine stR (by walk_at "m upd") ?_))
      ((refine se_for (by intro _ _; rfl) ?_))
      refine ie_list ?_
      (repeat (walk_at "m pe"))
      refine ⟨_, rfl, ?_⟩
      refine ForL_map rowD (fun rest σ => ∃ gr, ∃ cs : Nat → Cell, rest.foldl (fun g p => [((0 : Int), i), (1, j)].foldl (putGame i j pl' p.1 p.2) g) gr = roundOne i j pl' rs' ∧ gr.length + 2 * rest.length ≤ 2 * rs'.length ∧ σ = [(("wins" : Str), .imm (.int wins)), (("rounds" : Str), .imm (.list (rs'.map rowD))), (("place" : Str), .imm (.int (pl' : Nat))), (("i" : Str), .imm (.int (i : Nat))), (("j" : Str), .imm (.int (j : Nat))), (("grown" : Str), .own (gr.map rowD)), (("number" : Str), cs 0), (("left" : Str), cs 1), (("bit" : Str), cs 2), (("who" : Str), cs 3), (("rest" : Str), cs 4)]) (fun p rest σ hI K hK => ?_) (fun σ hI => ?_) rs' ⟨[], cf [_, _, _, _, _], rfl, by simp, rfl⟩
      · obtain ⟨gr, cs, e2, e3, rfl⟩ := hI
        refine ae_pair (IsSeq.list _) ?_
        ((refine ae_nm (by walk_at "m upd") ?_))
        ((refine ae_nm (by walk_at "m upd") ?_))
        ((refine se_for (by intro _ _; rfl) ?_))
        refine ie_tuple ?_
        (repeat (walk_at "m pe"))
        refine ⟨by simp, ?_⟩
        (repeat (walk_at "m pe"))
        refine ⟨by simp, ?_⟩
        (repeat (walk_at "m pe"))
        refine ⟨by simp, ⟨_, rfl, ?_⟩⟩
        refine ForL_map (fun b : Int × Nat => D.tup [.int b.1, .int (b.2 : Nat)]) (fun bs σ => ∃ g2, ∃ cs : Nat → Cell, (∀ b ∈ bs, 0 ≤ b.1 ∧ b.1 ≤ 1 ∧ b.2 < 5) ∧ bs.foldl (putGame i j pl' p.1 p.2) g2 = [((0 : Int), i), (1, j)].foldl (putGame i j pl' p.1 p.2) gr ∧ g2.length + bs.length ≤ gr.length + 2 ∧ σ = [(("wins" : Str), .imm (.int wins)), (("rounds" : Str), .imm (.list (rs'.map rowD))), (("place" : Str), .imm (.int (pl' : Nat))), (("i" : Str), .imm (.int (i : Nat))), (("j" : Str), .imm (.int (j : Nat))), (("grown" : Str), .own (g2.map rowD)), (("number" : Str), .imm (.int p.1)), (("left" : Str), .imm (.int p.2)), (("bit" : Str), cs 0), (("who" : Str), cs 1), (("rest" : Str), cs 2)]) (fun b bs σ hI K hK => ?_) (fun σ hI => ?_) [((0 : Int), i), (1, j)] ⟨gr, cf [_, _, _], ?_, rfl, by simp, rfl⟩
        · obtain ⟨g2, cs, e5, e6, e7, rfl⟩ := hI
          obtain ⟨b1, b2, b3⟩ := e5 b (.head _)
          have q := pow16 b.2 b3
          have hlen2 : (g2.map rowD).length ≤ 100000 := by simp at e7 e3 ⊢; omega
          refine ae_pair (IsSeq.tup _) ?_
          ((refine ae_nm (by walk_at "m upd") ?_))
          ((refine ae_nm (by walk_at "m upd") ?_))
          ((refine se_if ?_; (repeat (walk_at "m pe"))))
          refine op_pow (by omega) (by omega) (by decide) (op_floordiv q ?_)
          (repeat (walk_at "m pe"))
          ((refine ⟨_, rfl, ifB ?_ ?_⟩))
          · intro hc1
            ((walk_at "m as0"; (repeat (walk_at "m pe"))))
            refine op_pow (by omega) (by omega) (by decide) ?_
            (repeat (walk_at "m pe"))
            ((refine se_if ?_; (repeat (walk_at "m pe"))))
            ((refine ⟨_, rfl, ifB ?_ ?_⟩))
            · intro hc2
              refine ifT rfl ?_
              ((refine se_app (by walk_at "m upd") (by first | assumption | (simp; done) | (simp; omega)) rfl (by intro _; rfl) ?_))
              (repeat (walk_at "m pe"))
              refine op_pow (by omega) (by omega) (by decide) ?_
              (repeat (walk_at "m pe"))
              refine ⟨by simp, stR_own (put_snoc g2 (p.1 + b.1 * 2 ^ pl', p.2 - 16 ^ b.2)) (by walk_at "m upd") ?_⟩
              (first | (refine se_nilS ?_) | (refine se_nil (seId ?_)))
              (first | (refine se_nilS ?_) | (refine se_nil (seId ?_)))
              exact se_nil (hK _ (put_end e5 e6 e7 (put_yes hc1 (Bool.or_eq_true_iff.mpr (.inl hc2))) (by simp)))
            · intro hc2
              (repeat (walk_at "m pe"))
              refine op_pow (by omega) (by omega) (by decide) (op_floordiv (pow16 i hi) ?_)
              (repeat (walk_at "m pe"))
              ((refine ⟨_, rfl, ifB ?_ ?_⟩))
              · intro hc3
                refine ifT rfl ?_
                ((refine se_app (by walk_at "m upd") (by first | assumption | (simp; done) | (simp; omega)) rfl (by intro _; rfl) ?_))
                (repeat (walk_at "m pe"))
                refine op_pow (by omega) (by omega) (by decide) ?_
                (repeat (walk_at "m pe"))
                refine ⟨by simp, stR_own (put_snoc g2 (p.1 + b.1 * 2 ^ pl', p.2 - 16 ^ b.2)) (by walk_at "m upd") ?_⟩
                (first | (refine se_nilS ?_) | (refine se_nil (seId ?_)))
                (first | (refine se_nilS ?_) | (refine se_nil (seId ?_)))
                exact se_nil (hK _ (put_end e5 e6 e7 (put_yes hc1 (Bool.or_eq_true_iff.mpr (.inr hc3))) (by simp)))
              · intro hc3
                (repeat (walk_at "m pe"))
                refine ifF rfl ?_
                (first | (refine se_nilS ?_) | (refine se_nil (seId ?_)))
                (first | (refine se_nilS ?_) | (refine se_nil (seId ?_)))
                exact se_nil (hK _ (put_end e5 e6 e7 (put_no (.inr ⟨hc2, hc3⟩)) (Nat.le_succ _)))
          · intro hc1
            (first | (refine se_nilS ?_) | (refine se_nil (seId ?_)))
            exact se_nil (hK _ (put_end e5 e6 e7 (put_no (.inl hc1)) (Nat.le_succ _)))
        · obtain ⟨g2, cs, e5, e6, e7, rfl⟩ := hI
          (first | (refine se_nilS ?_) | (refine se_nil (seId ?_)))
          refine se_nil (hK _ ⟨g2, cf [_, _, _, _, _], ?_, ?_, rfl⟩)
          · rw [← e2, List.foldl_cons, ← e6]; rfl
          · simp at e7 e3 ⊢; omega
        · intro b hb
          simp at hb
          rcases hb with rfl | rfl
          · exact ⟨by simp, by simp, hi⟩
          · exact ⟨by simp, by simp, hj5⟩
      · obtain ⟨gr, cs, e2, e3, rfl⟩ := hI
        (first | (refine se_nilS ?_) | (refine se_nil (seId ?_)))
        refine se_frz (by walk_at "m upd") ?_
        ((walk_at "m as0"; (repeat (walk_at "m pe"))))
        walk_at "m as0"
        walk_at "m pe"
        walk_at "m pe"
        walk_at "m pe"
        refine op_add (stR_imm (d' := .int ((pl' + 1 : Nat) : Int)) rfl (by walk_at "m upd") ?_)
        refine se_nil (hK _ ⟨gr, pl' + 1, cf [_, _, _, _, _, _, _], ?_, ?_, by omega, rfl⟩)
        · rw [List.range_succ, List.map_append, List.foldl_append, hf2, show gr = roundOne i j pl' rs' from e2, ← hj]; rfl
        · simp at e3; rw [Nat.pow_succ]; omega
    · obtain ⟨rs', pl', cs, hf2, hlen', hpl2, rfl⟩ := hI
      (first | (refine se_nilS ?_) | (refine se_nil (seId ?_)))
      refine se_nil (hK _ ⟨rs', pl', cf [_, _, _, _, _, _, _, _], ?_, hlen', ?_, rfl⟩)
      · rw [List.range_succ, List.flatMap_append, List.foldl_append, hst]
        simpa using hf2
      · rw [List.range_succ, List.map_append, List.sum_append, ← hpl, hpl2]; simp
  · obtain ⟨rs, pl, cs, hf, hlen, hpl, rfl⟩ := hI
    have hall : rs = (roundsAll wins).1 := by
      unfold roundsAll gamesZ
      rw [hf]
    have hpl10 : pl = 10 := by rw [hpl]; decide
    subst hpl10
    (first | (refine se_nilS ?_) | (refine se_nil (seId ?_)))
    ((refine se_ret ?_; (repeat (walk_at "m pe"))))
    refine pe_comp (by kernel_rfl) (ie_list ?_) (by intro _ _; rfl)
    (repeat (walk_at "m pe"))
    refine ⟨_, rfl, ?_⟩
    refine CompL_fold rowD (fun p => p.2 == 0) (fun p => .int p.1) rs [] (fun p hp next acc hacc hn => ?_) (by simp; omega) ?_
    · refine ⟨_, .pair _ _ _ _ _ _ (IsSeq.list _), tgt_capt (by kernel_rfl), ?_⟩
      show TE _ _ _ _ _ _
      (repeat (walk_at "m pe"))
      refine ⟨_, rfl, ?_⟩
      cases hz : (p.2 == 0) with
      | true =>
        rw [hz, if_pos rfl] at hn
        refine ifT rfl ?_
        (repeat (walk_at "m pe"))
        exact ⟨hacc, hn⟩
      | false =>
        rw [hz, if_neg (by decide)] at hn
        refine ifF rfl ?_
        exact hn
    · (repeat (walk_at "m pe"))
      rw [List.nil_append, show (rs.filter fun p => p.2 == 0).map (fun p => D.int p.1) = (roundsP wins).map D.int by unfold roundsP; rw [← hall]; simp]
      refine op_sorted hR fun ns h1 h2 => ?_
      exact hQ ns h1 h2
end

-- C28
set_option maxRecDepth 100000
noncomputable def leadP (bare : List Int) (k : Nat) : Str := if (bare.any (· == (k : Int))) = true then "" else " "
noncomputable def endsL : List Str := ["\n", "\r", "\r\n"]
noncomputable def endP (turn : Int) (k : Nat) : Str := endsL.getD (((k : Int) * (k : Int) + turn).fmod 3).toNat ""
noncomputable def lineP (rows : List Str) (bare : List Int) (turn : Int) (k : Nat) : Str := leadP bare k ++ rows.getD k "" ++ endP turn k
noncomputable def mailP (rows : List Str) (bare : List Int) (turn : Int) : Str := Txt.join "" ((List.range 5).map (lineP rows bare turn))
noncomputable def cutP (S : List Str) (bare : List Int) : List Str := (List.range 5).map fun k => Txt.slice (S.getD k "") (some ((leadP bare k).length : Int)) none

theorem filter_t {α : Type} (l : List α) : l.filter (fun _ => true) = l := List.filter_eq_self.mpr (by simp)
theorem len_lead (bare : List Int) (k : Nat) : (leadP bare k).length ≤ 1 := by
  unfold leadP
  split
  · decide +kernel
  · decide +kernel
theorem len_ends : ∀ i, (endsL.getD i "").length ≤ 2
  | 0 => by decide +kernel
  | 1 => by decide +kernel
  | 2 => by decide +kernel
  | i + 3 => by
    have : endsL.getD (i + 3) "" = "" := rfl
    rw [this]; decide +kernel

theorem CompL_rangeT {G : Gd} {k : Nat} {sc : Scope} {ρ : List (Str × D)} {target elt : Expr} {ifs : List Expr} {K : List D → Prop} (g : Nat → D) (n : Nat) {m : Nat} (hm : m = n) (hn : n < 1000)
    (step : ∀ i, i < n → ∀ (next : List D → Prop) acc, acc.length < 100000 → next (acc ++ [g i]) → stepL G k sc ρ target ifs elt (.int ((i : Nat) : Int)) next acc) (hK : K ((List.range n).map g)) : CompL G k sc ρ target ifs elt K (irange 0 m) [] := by
  subst hm
  refine CompL_fold (fun (k : Nat) => D.int (0 + (k : Int))) (fun _ => true) g (List.range m) [] (fun i hi next acc ha h => ?_) (by simp; omega) (by rw [filter_t]; exact hK)
  rw [Int.zero_add]
  exact step i (List.mem_range.mp hi) next acc ha (by simpa using h)
theorem short_at {l : List Str} {n : Nat} (h : ∀ r ∈ l, r.length ≤ n) (h0 : ("" : Str).length ≤ n) (k : Nat) : (l.getD k "").length ≤ n := by
  rw [List.getD_eq_getElem?_getD]
  cases e : l[k]? with
  | none => exact h0
  | some x => exact h x (List.mem_of_getElem? e)
theorem ends_at (turn : Int) (k : Nat) : 0 ≤ ((k : Int) * (k : Int) + turn).fmod 3 ∧ ((k : Int) * (k : Int) + turn).fmod 3 < 3 ∧ ([D.str "\n", D.str "\r", D.str "\r\n"] : List D)[(((k : Int) * (k : Int) + turn).fmod 3).toNat]? = some (.str (endP turn k)) := by
  have h : 0 ≤ ((k : Int) * (k : Int) + turn).fmod 3 ∧ ((k : Int) * (k : Int) + turn).fmod 3 < 3 := by
    rw [Int.fmod_eq_emod_of_nonneg _ (by omega)]
    omega
  refine ⟨h.1, h.2, ?_⟩
  obtain ⟨m1, m2⟩ := h
  unfold endP
  generalize ((k : Int) * (k : Int) + turn).fmod 3 = m at m1 m2
  have : m = 0 ∨ m = 1 ∨ m = 2 := by omega
  rcases this with rfl | rfl | rfl <;> rfl
theorem mail_fits {rows : List Str} {bare : List Int} {turn : Int} (hrl : ∀ k, (rows.getD k "").length ≤ 40) : JoinOk "" ((List.range 5).map (lineP rows bare turn)) = true ∧ (mailP rows bare turn).length ≤ 215 := by
  have hll : ∀ k, (lineP rows bare turn k).length ≤ 43 := fun k => by
    unfold lineP
    rw [Str.length_append, Str.length_append]
    have l1 := len_lead bare k
    have l2 := hrl k
    have l3 : (endP turn k).length ≤ 2 := len_ends _
    omega
  have hsum : (((List.range 5).map (lineP rows bare turn)).map (·.length)).sum ≤ 215 := by
    have h0 := hll 0
    have h1 := hll 1
    have h2 := hll 2
    have h3 := hll 3
    have h4 := hll 4
    rw [show List.range 5 = [0, 1, 2, 3, 4] from rfl]
    simp only [List.map_cons, List.map_nil, List.sum_cons, List.sum_nil]
    omega
  obtain ⟨j1, j2⟩ := join_fits (l := (List.range 5).map (lineP rows bare turn)) (by omega)
  have e0 : ("" : Str) = ⟨#[]⟩ := by kernel_rfl
  unfold mailP
  rw [e0]
  exact ⟨j1, by omega⟩
theorem op_joinE {G : Gd} {k : Nat} {Q : D → Prop} {x r : Str} {ds : List D} (h : ∃ ss : List Str, ds = ss.map D.str ∧ JoinOk x ss = true ∧ Txt.join x ss = r) (q : Q (.str r)) : OpL G k (fun vs => call (.builtin "str.join") vs) [.str x, .list ds] Q := by
  obtain ⟨ss, rfl, h1, rfl⟩ := h; exact op_join h1 q
theorem op_splitE {G : Gd} {k : Nat} {Q : D → Prop} {x y : Str} {l : List Str} (hy : (y.length == 0) = false) (hx : x.length ≤ 100000) (e : Txt.split x y = l) (h : Q (.list (l.map D.str))) : OpL G k (fun vs => call (.builtin "str.split") vs) [.str x, .str y] Q := by subst e; exact op_split hy hx h
theorem op2k_eq {P : D → Prop} {l l' : List D} (e : l = l') (h : P (.list l')) : P (.list l) := e ▸ h
theorem last_of {S : List Str} (hS5 : S.length = 5) : (((sliceRange (sliceBounds (some 5) none none ((S ++ [("" : Str)]).map D.str).length).1 (sliceBounds (some 5) none none ((S ++ [("" : Str)]).map D.str).length).2.1 (sliceBounds (some 5) none none ((S ++ [("" : Str)]).map D.str).length).2.2).filterMap (((S ++ [("" : Str)]).map D.str)[·]?))) = [D.str ""] := by
  rw [show ((S ++ [("" : Str)]).map D.str).length = 6 by simp [hS5]]
  rw [show sliceRange (sliceBounds (some 5) none none 6).1 (sliceBounds (some 5) none none 6).2.1 (sliceBounds (some 5) none none 6).2.2 = [5] by decide]
  simp [hS5]

section
variable {G : Gd} (hG : GOK G)
include hG
theorem spec_sent {rows : List Str} {bare : List Int} {turn : Int} {S : List Str} (h5 : rows.length = 5) (hr : ∀ r ∈ rows, r.length ≤ 40) (hS : Txt.split (dotS (eolS (mailP rows bare turn))) "\r\n" = S ++ [("" : Str)]) (hS5 : S.length = 5) (hSl : ∀ s ∈ S, s.length ≤ 1000)
    {Q : D → Prop} (hQ : Q (.list ((cutP S bare).map D.str))) : OpL G 3 (fun vs => call (.ref 101) vs) [.list (rows.map D.str), .list (bare.map D.int), .int turn] Q := by
  refine fn_spec (others := ["ends", "lead", "sent"]) (F101 hG) (by kernel_rfl) rfl ?_
  have hlead : ∀ k, k < 5 → ((List.range 5).map fun k => D.str (leadP bare k))[((k : Nat) : Int).toNat]? = some (.str (leadP bare k)) := fun k hk => by simp [hk]
  have hrow : ∀ k, k < 5 → (rows.map D.str)[((k : Nat) : Int).toNat]? = some (.str (rows.getD k "")) := fun k hk => by simp [List.getD, h5, hk]
  have hrl : ∀ k, (rows.getD k "").length ≤ 40 := short_at hr (by decide +kernel)
  have hgl : ∀ k, (S.getD k "").length ≤ 1000 := short_at hSl (by decide +kernel)
  have hget : ∀ k, k < 5 → ((S ++ [("" : Str)]).map D.str)[((k : Nat) : Int).toNat]? = some (.str (S.getD k "")) := fun k hk => by
    rw [show ((k : Nat) : Int).toNat = k from rfl, List.getElem?_map, List.getElem?_append_left (by omega), List.getD_eq_getElem?_getD, List.getElem?_eq_getElem (by omega)]; rfl
  obtain ⟨j1, hmail⟩ := mail_fits (bare := bare) (turn := turn) hrl
  have q1 := (eolS_len (mailP rows bare turn) (by omega)).1
  have q2 := (dotS_len (eolS (mailP rows bare turn)) (by omega)).1
  ((conv => arg 5; whnf); dsimp only [sto0, List.zip, List.zipWith, List.map, List.cons_append, List.nil_append])
  ((walk_at "m as0"; (repeat (walk_at "m pe"))))
  refine ⟨by simp, ?_⟩
  (first | (refine seId ?_) | (refine stR (by walk_at "m upd") ?_))
  refine se_cons (s_asgC (by walk_at "m upd") (by kernel_rfl) ?_)
  refine pe_comp (by kernel_rfl) (ie_range ?_) (by intro _ _; rfl)
  (repeat (walk_at "m pe"))
  refine op_range1 ⟨_, _, rfl, by decide, ?_⟩
  refine CompL_rangeT (fun k => .str (leadP bare k)) 5 rfl (by decide) (fun k hk next acc hacc hn => ?_) ?_
  · refine ⟨_, .name _ _ _, tgt_capt (by kernel_rfl), ?_⟩
    show PE _ _ _ _ _ _
    (repeat (walk_at "m pe"))
    refine op_in_ints (IsSeq.list _) ?_
    unfold leadP at hn
    ((refine ⟨_, rfl, ifB ?_ ?_⟩))
    · intro hc
      (repeat (walk_at "m pe"))
      rw [if_pos hc] at hn
      exact ⟨hacc, hn⟩
    · intro hc
      (repeat (walk_at "m pe"))
      rw [if_neg (by rw [hc]; decide)] at hn
      exact ⟨hacc, hn⟩
  · (first | (refine seId ?_) | (refine stR (by walk_at "m upd") ?_))
    ((walk_at "m as0"; (repeat (walk_at "m pe"))))
    refine pe_method ?_
    walk_at "m pe"
    refine pl_cons (pe_method ?_)
    walk_at "m pe"
    refine ⟨_, meth_str PySem.F.slot_str_join PySem.F.type_str_join, ?_⟩
    refine pl_cons (pe_comp (by kernel_rfl) (ie_range ?_) (by intro _ _; rfl))
    (repeat (walk_at "m pe"))
    refine op_range1 ⟨_, _, rfl, by decide, ?_⟩
    refine CompL_rangeT (fun k => .str (lineP rows bare turn k)) 5 rfl (by decide) (fun k hk next acc hacc hn => ?_) ?_
    · have l1 := len_lead bare k
      have l2 := hrl k
      have l3 : (endP turn k).length ≤ 2 := len_ends _
      obtain ⟨m1, m2, m3⟩ := ends_at turn k
      refine ⟨_, .name _ _ _, tgt_capt (by kernel_rfl), ?_⟩
      show PE _ _ _ _ _ _
      (repeat (walk_at "m pe"))
      refine op_item_list (by omega) (hlead k hk) ?_
      (repeat (walk_at "m pe"))
      refine op_item_list (by omega) (hrow k hk) ?_
      refine op_add_str (by omega) ?_
      (repeat (walk_at "m pe"))
      refine op_item_list (d := .str (endP turn k)) (by omega) m3 ?_
      refine op_add_str (by rw [Str.length_append]; omega) ?_
      exact ⟨hacc, hn⟩
    · (repeat (walk_at "m pe"))
      refine op_joinE ⟨_, (List.map_map (f := lineP rows bare turn) (g := D.str)).symm, j1, rfl⟩ ?_
      (repeat (walk_at "m pe"))
      refine (spec_quote hG (x := mailP rows bare turn) (by omega) ?_).le (by omega)
      refine ⟨_, meth_str PySem.F.slot_str_split PySem.F.type_str_split, ?_⟩
      (repeat (walk_at "m pe"))
      refine op_splitE (by decide +kernel) (by omega) hS ?_
      (first | (refine seId ?_) | (refine stR (by walk_at "m upd") ?_))
      ((refine se_if ?_; (repeat (walk_at "m pe"))))
      refine po_some ?_
      (repeat (walk_at "m pe"))
      refine ⟨_, .int _, po_none (.inr ⟨_, rfl, by simp [hS5], ?_⟩)⟩
      refine op2k_eq (last_of hS5) ?_
      (repeat (walk_at "m pe"))
      refine ⟨by simp, ?_⟩
      refine op_ne_list rfl ⟨_, rfl, ?_⟩
      refine ifF rfl ?_
      (first | (refine se_nilS ?_) | (refine se_nil (seId ?_)))
      ((refine se_ret ?_; (repeat (walk_at "m pe"))))
      refine pe_comp (by kernel_rfl) (ie_range ?_) (by intro _ _; rfl)
      (repeat (walk_at "m pe"))
      refine op_range1 ⟨_, _, rfl, by decide, ?_⟩
      refine CompL_rangeT (fun k => .str (Txt.slice (S.getD k "") (some ((leadP bare k).length : Int)) none)) 5 rfl (by decide) (fun k hk next acc hacc hn => ?_) ?_
      · have l1 := len_lead bare k
        have l2 := hgl k
        refine ⟨_, .name _ _ _, tgt_capt (by kernel_rfl), ?_⟩
        show PE _ _ _ _ _ _
        refine pe_slice ?_
        (repeat (walk_at "m pe"))
        refine op_item_list (by omega) (hget k hk) ?_
        refine po_some ?_
        (repeat (walk_at "m pe"))
        refine op_item_list (by omega) (hlead k hk) ?_
        (repeat (walk_at "m pe"))
        refine op_len_str (by omega) ?_
        exact ⟨_, .int _, po_none (.inl ⟨_, rfl, by omega, hacc, hn⟩)⟩
      · unfold cutP at hQ
        rw [List.map_map] at hQ
        exact hQ
end

-- C29
set_option maxRecDepth 100000
structure SentOk (rows : List Str) (bare : List Int) (turn : Int) (rows' : List Str) : Prop where
  len : rows.length = 5
  short : ∀ r ∈ rows, r.length ≤ 40
  cut : ∃ S : List Str, Txt.split (dotS (eolS (mailP rows bare turn))) "\r\n" = S ++ [("" : Str)] ∧ S.length = 5 ∧ (∀ s ∈ S, s.length ≤ 1000) ∧ rows' = cutP S bare

noncomputable def iP (f s : Nat) : Nat := min ((f + s) % 5) ((f + 5 - s) % 5)
noncomputable def jP (f s : Nat) : Nat := max ((f + s) % 5) ((f + 5 - s) % 5)
noncomputable def pickP (words : List Str) (sh f s : Nat) : Int := if (words.any (· == wordP (sh + (gameP (iP f s) (jP f s)).toNat))) = true then (jP f s : Int) else (iP f s : Int)
noncomputable def bareP (words : List Str) (sh f : Nat) : List Int := [1, 2].map (pickP words sh f)

theorem ij_lt : ∀ f < 5, ∀ s, s = 1 ∨ s = 2 → iP f s < jP f s ∧ jP f s < 5 := by
  intro f hf s hs
  have : ∀ f < 5, (iP f 1 < jP f 1 ∧ jP f 1 < 5) ∧ (iP f 2 < jP f 2 ∧ jP f 2 < 5) := by decide
  rcases hs with rfl | rfl
  · exact (this f hf).1
  · exact (this f hf).2
theorem perm_two' {a b : Int} {l : List Int} (h : l.Perm [a, b]) (hs : l.Pairwise (· ≤ ·)) : l = [min a b, max a b] := by
  have e : ∀ {x y : Int}, x ≤ y → l.Perm [x, y] → l = [x, y] := fun hxy hp =>
    List.Perm.eq_of_pairwise (fun a b _ _ h1 h2 => Int.le_antisymm h1 h2) hs (.cons (fun z hz => by cases List.mem_singleton.mp hz; exact hxy) (.cons (fun _ hz => nomatch hz) .nil)) hp
  rcases Int.le_total a b with q | q
  · rw [Int.min_eq_left q, Int.max_eq_right q]; exact e q h
  · rw [Int.min_eq_right q, Int.max_eq_left q]; exact e q (h.trans (List.Perm.swap ..))
theorem op_sorted2 {G : Gd} {k : Nat} {Q : D → Prop} {a b x y : Int} (e1 : min a b = x) (e2 : max a b = y) (h : Q (.list [.int x, .int y])) : OpL G k (fun vs => call (.builtin "sorted") vs) [.list [.int a, .int b]] Q :=
  op_sorted (ns := [a, b]) (by simp) fun ns p1 p2 => by rw [perm_two' p1 p2, e1, e2]; exact h
theorem ij_mm : ∀ f : Nat, f < 5 → ∀ s ∈ ([1, 2] : List Nat), min (((f : Int) + (s : Int)).fmod 5) (((f : Int) - (s : Int)).fmod 5) = ((iP f s : Nat) : Int) ∧ max (((f : Int) + (s : Int)).fmod 5) (((f : Int) - (s : Int)).fmod 5) = ((jP f s : Nat) : Int) := by decide +kernel
theorem mem_12 {s : Nat} (hs : s = 1 ∨ s = 2) : s ∈ ([1, 2] : List Nat) := by rcases hs with rfl | rfl <;> decide
theorem ij_min {f s : Nat} (hf : f < 5) (hs : s = 1 ∨ s = 2) : min (((f : Int) + (s : Int)).fmod 5) (((f : Int) - (s : Int)).fmod 5) = ((iP f s : Nat) : Int) := (ij_mm f hf s (mem_12 hs)).1
theorem ij_max {f s : Nat} (hf : f < 5) (hs : s = 1 ∨ s = 2) : max (((f : Int) + (s : Int)).fmod 5) (((f : Int) - (s : Int)).fmod 5) = ((jP f s : Nat) : Int) := (ij_mm f hf s (mem_12 hs)).2
theorem pick_snoc {words : List Str} {sh f s : Nat} {dn : List Int} {z : Int} (e : pickP words sh f s = z) : dn.map D.int ++ [D.int z] = (dn ++ [pickP words sh f s]).map D.int := by rw [e]; simp
theorem pick_end {words : List Str} {sh f s : Nat} {rest : List Nat} {dn : List Int} {c0 c1 c2 : Cell} {cr cw ch cf' : Cell} (e2 : ∀ x ∈ s :: rest, x = 1 ∨ x = 2) (e3 : dn ++ (s :: rest).map (pickP words sh f) = bareP words sh f) (e5 : (s :: rest).length + dn.length ≤ 5) :
    ∃ dn', ∃ cs : Nat → Cell, (∀ s ∈ rest, s = 1 ∨ s = 2) ∧ dn' ++ rest.map (pickP words sh f) = bareP words sh f ∧ dn'.length ≤ 10 ∧ rest.length + dn'.length ≤ 5 ∧
      ([(("rows" : Str), cr), (("words" : Str), cw), (("shift" : Str), ch), (("free" : Str), cf'), (("bare" : Str), .own ((dn ++ [pickP words sh f s]).map D.int)), (("step" : Str), c0), (("i" : Str), c1), (("j" : Str), c2)] : Sto) =
        [(("rows" : Str), cr), (("words" : Str), cw), (("shift" : Str), ch), (("free" : Str), cf'), (("bare" : Str), .own (dn'.map D.int)), (("step" : Str), cs 0), (("i" : Str), cs 1), (("j" : Str), cs 2)] :=
  ⟨dn ++ [pickP words sh f s], cf [c0, c1, c2], fun x hx => e2 x (.tail _ hx), by rw [← e3]; simp, by simp at e5 ⊢; omega, by simp at e5 ⊢; omega, rfl⟩

section
variable {G : Gd} (hG : GOK G)
include hG
theorem call_sent {k : Nat} (hk : 3 ≤ k) {rows rows' : List Str} {bare : List Int} {turn : Int} (h : SentOk rows bare turn rows') {Q : D → Prop} (hQ : Q (.list (rows'.map D.str))) : OpL G k (fun vs => call (.ref 101) vs) [.list (rows.map D.str), .list (bare.map D.int), .int turn] Q := by
  obtain ⟨S, h1, h2, h3, h4⟩ := h.cut
  refine (spec_sent hG h.len h.short h1 h2 h3 ?_).le hk
  rw [← h4]; exact hQ

theorem spec_wordE {v : Int} {n : Nat} (e : v = (n : Nat)) (hn : n < 41) {Q : D → Prop} (hQ : Q (.str (wordP n))) : OpL G 1 (fun vs => call (.ref 84) vs) [.int v] Q := by subst e; exact spec_word hG hn hQ
theorem spec_played {R : Nat → List Str} {words : List Str} {sh : Nat} (hsh : sh < 23) (h1 : ∀ f < 5, SentOk (R f) (bareP words sh f) ((f : Int) + (sh : Int)) (R (f + 1))) (h2 : SentOk (R 5) [0, 1, 2, 3, 4] (sh : Int) (R 6))
    {Q : D → Prop} (hQ : Q (.list ((R 6).map D.str))) : OpL G 4 (fun vs => call (.ref 108) vs) [.list ((R 0).map D.str), .list (words.map D.str), .int (sh : Nat)] Q := by
  refine fn_spec (others := ["free", "bare", "step", "i", "j"]) (F108 hG) (by kernel_rfl) rfl ?_
  ((conv => arg 5; whnf); dsimp only [sto0, List.zip, List.zipWith, List.map, List.cons_append, List.nil_append])
  ((refine se_for (by intro _ _; rfl) ?_))
  refine ie_range ?_
  (repeat (walk_at "m pe"))
  refine op_range1 ⟨_, _, rfl, by decide, ?_⟩
  refine ForL_rangeF 0 5 (fun f => ((f : Nat) : Int)) (fun f σ => ∃ cs : Nat → Cell, σ = [(("rows" : Str), .imm (.list ((R f).map D.str))), (("words" : Str), .imm (.list (words.map D.str))), (("shift" : Str), .imm (.int (sh : Nat))), (("free" : Str), cs 0), (("bare" : Str), cs 1), (("step" : Str), cs 2), (("i" : Str), cs 3), (("j" : Str), cs 4)])
    (fun f => Int.zero_add _) rfl (fun f hf σ hI K hK => ?_) (fun σ hI => ?_) ⟨cf [_, _, _, _, _], rfl⟩
  · obtain ⟨cs, rfl⟩ := hI
    ((refine ae_nm (by walk_at "m upd") ?_))
    refine se_own (by walk_at "m upd") (by intro _; rfl) ?_; (repeat (walk_at "m pe"))
    refine ⟨by simp, ?_⟩
    (first | (refine seId ?_) | (refine stR (by walk_at "m upd") ?_))
    ((refine se_for (by intro _ _; rfl) ?_))
    refine ie_tuple ?_
    (repeat (walk_at "m pe"))
    refine ⟨by simp, ⟨_, rfl, ?_⟩⟩
    refine ForL_map (fun s : Nat => D.int (s : Int)) (fun rest σ => ∃ dn, ∃ cs : Nat → Cell, (∀ s ∈ rest, s = 1 ∨ s = 2) ∧ dn ++ rest.map (pickP words sh f) = bareP words sh f ∧ dn.length ≤ 10 ∧ rest.length + dn.length ≤ 5 ∧ σ = [(("rows" : Str), .imm (.list ((R f).map D.str))), (("words" : Str), .imm (.list (words.map D.str))), (("shift" : Str), .imm (.int (sh : Nat))), (("free" : Str), .imm (.int (f : Nat))), (("bare" : Str), .own (dn.map D.int)), (("step" : Str), cs 0), (("i" : Str), cs 1), (("j" : Str), cs 2)]) (fun s rest σ hI K hK => ?_) (fun σ hI => ?_) [1, 2] ⟨[], cf [_, _, _], by simp, rfl, by simp, by simp, rfl⟩
    · obtain ⟨dn, cs, e2, e3, e4, e5, rfl⟩ := hI
      have hs := e2 s (.head _)
      obtain ⟨o1, o2⟩ := ij_lt f hf s hs
      have g := game_small (iP f s) (by omega) (jP f s) o2 o1
      have hlen : (dn.map D.int).length ≤ 100000 := by simp; omega
      ((refine ae_nm (by walk_at "m upd") ?_))
      refine se_cons (s_assign_pair ?_ (by intro _; rfl) (by intro _; rfl))
      (repeat (walk_at "m pe"))
      refine ⟨by simp, ?_⟩
      (repeat (walk_at "m pe"))
      refine op_sorted2 (ij_min hf hs) (ij_max hf hs) ?_
      refine ae_pair (IsSeq.list _) ?_
      ((refine ae_nm (by walk_at "m upd") ?_))
      ((refine ae_nm (by walk_at "m upd") ?_))
      (first | (refine seId ?_) | (refine stR (by walk_at "m upd") ?_))
      ((refine se_app (by walk_at "m upd") (by first | assumption | (simp; done) | (simp; omega)) rfl (by intro _; rfl) ?_))
      (repeat (walk_at "m pe"))
      refine (spec_game hG (by omega) ?_).le (by omega)
      (repeat (walk_at "m pe"))
      refine (spec_wordE hG (n := sh + (gameP (iP f s) (jP f s)).toNat) (by omega) (by omega) ?_).le (by omega)
      (repeat (walk_at "m pe"))
      refine op_in_strs ?_
      ((refine ⟨_, rfl, ifB ?_ ?_⟩))
      · intro hc
        refine pe_name (by walk_at "m mem") (stR_own (pick_snoc (if_pos hc)) (by walk_at "m upd") ?_)
        exact se_nil (hK _ (pick_end e2 e3 e5))
      · intro hc
        refine pe_name (by walk_at "m mem") (stR_own (pick_snoc (if_neg (by rw [hc]; decide))) (by walk_at "m upd") ?_)
        exact se_nil (hK _ (pick_end e2 e3 e5))
    · obtain ⟨dn, cs, e2, e3, e4, e5, rfl⟩ := hI
      rw [List.map_nil, List.append_nil] at e3
      subst e3
      (first | (refine se_nilS ?_) | (refine se_nil (seId ?_)))
      refine se_frz (by walk_at "m upd") ?_
      ((walk_at "m as0"; (repeat (walk_at "m pe"))))
      refine call_sent hG (by omega) (h1 f hf) ?_
      (first | (refine seId ?_) | (refine stR (by walk_at "m upd") ?_))
      exact se_nil (hK _ ⟨cf [_, _, _, _, _], rfl⟩)
  · obtain ⟨cs, rfl⟩ := hI
    (first | (refine se_nilS ?_) | (refine se_nil (seId ?_)))
    ((refine se_ret ?_; (repeat (walk_at "m pe"))))
    refine ⟨by simp, ?_⟩
    (repeat (walk_at "m pe"))
    exact call_sent hG (by omega) (bare := [0, 1, 2, 3, 4]) h2 hQ
end

-- C30
set_option maxRecDepth 100000
section
variable {G : Gd} {k : Nat} {sc : Scope} {ρ : List (Str × D)} {Q : D → Prop}
theorem op_item_strN {value slice : Expr} {x : Str} {i : Int} {c : Nat} (hf : -(2 ^ 62) ≤ i ∧ i < 2 ^ 62) (hc : Txt.charAt x i = some c) (h : Q (.str ⟨#[c]⟩)) (hs : ∀ o i, subscripted slice false o i = operate [o, i] (getItem o i) := by intro _ _; rfl) :
    Op2 G k (subscriptTail value slice) (.str x) (.int i) Q := fun A I s v u oa hB hI r₁ r₂ => by
  obtain ⟨t₁, rfl⟩ := rep_str.mp r₁
  obtain ⟨t, rfl⟩ := rep_int.mp r₂
  refine tail_any (typeIs_str _ _ _) PySem.F.slot_str_getitem.lookup (SB.getItem (by unfold fitsSsize; simp; omega) (by rw [hc]; rfl) ?_) (hs _ _)
  unfold Txt.item
  rw [hc]
  exact Res.one (Grow.tok hI _) (rep_str.mpr ⟨_, rfl⟩) h
theorem ob_str {x : Str} (hx : x.length ≤ 100000) {Q : Bool → Prop} (h : Q ((x.length : Int) != 0)) : OpB G k (.str x) Q := fun A I s v oa hB hI r => by
  obtain ⟨t, rfl⟩ := rep_str.mp r
  refine PySem.P.truthy_str (by omega) ?_
  exact ⟨I, Grow.tok hI _, h⟩
end


noncomputable def sl (x : Str) (p : Int) : Str := Txt.slice x (some p) none
noncomputable def slTo (x : Str) (p : Int) : Str := Txt.slice x none (if (p != 0) = true then some p else none)
noncomputable def one (c : Nat) : Str := ⟨#[c]⟩
noncomputable def preO (a b : Str) : Nat → Nat → Option Nat
  | 0, _ => none
  | f + 1, p => if (((sl a p).length : Int) != 0) = true then (if (((sl b p).length : Int) != 0) = true then
      (match Txt.charAt a p, Txt.charAt b p with | some c, some d => if ((one c).cps.toList == (one d).cps.toList) = true then preO a b f (p + 1) else some p | _, _ => none) else some p) else some p
noncomputable def postO (a b : Str) : Nat → Nat → Option Nat
  | 0, _ => none
  | f + 1, p => if (((slTo a (-(p : Int))).length : Int) != 0) = true then (if (((slTo b (-(p : Int))).length : Int) != 0) = true then
      (match Txt.charAt a (-(p : Int) - 1), Txt.charAt b (-(p : Int) - 1) with | some c, some d => if ((one c).cps.toList == (one d).cps.toList) = true then postO a b f (p + 1) else some p | _, _ => none) else some p) else some p
noncomputable def innerO (a : Str) (bc : Str) : Nat → Nat → List Int → Int → Int → Int → Option (List Int × Int × Int × Int)
  | 0, _, row, dist, res, mn => some (row, dist, res, mn)
  | n + 1, i, row, dist, res, mn => match Txt.charAt a i, row[i]? with
    | some c, some d' =>
      let sub := dist + costP bc (one c)
      let ins := (if d' < res then d' else res) + 2
      let r := if sub < ins then sub else ins
      innerO a bc n (i + 1) (row.set i r) d' r (if decide (r < mn) = true then r else mn)
    | _, _ => none
noncomputable def outerO (a b : Str) (mx : Int) : Nat → Nat → List Int → Int → Option Int
  | 0, _, _, res => some res
  | n + 1, bi, row, res => match Txt.charAt b bi with
    | some c => (match innerO a (one c) a.length 0 row ((bi : Int) * 2) ((bi : Int) * 2) 9223372036854775807 with
      | some (row', _, res', mn) => if decide (mn > mx) = true then some (mx + 1) else outerO a b mx n (bi + 1) row' res'
      | none => none)
    | none => none
noncomputable def rowO (n : Nat) : List Int := (List.range n).map fun (i : Nat) => 2 + (i : Int) * 2
noncomputable def lastO (a b : Str) (mx : Int) : Option Int := if decide (((b.length : Int) - (a.length : Int)) * 2 > mx) = true then some (mx + 1) else outerO a b mx b.length 0 (rowO a.length) 0
noncomputable def levO (a b : Str) (mx : Int) : Option Int :=
  if (a.cps.toList == b.cps.toList) = true then some 0 else
  match preO a b 50 0 with
  | none => none
  | some p => match postO (sl a p) (sl b p) 50 0 with
    | none => none
    | some q =>
      let a2 := slTo (sl a p) (-(q : Int))
      let b2 := slTo (sl b p) (-(q : Int))
      if (!((a2.length : Int) != 0) || !((b2.length : Int) != 0)) = true then some (2 * ((a2.length : Int) + (b2.length : Int))) else
      if (decide ((a2.length : Int) > 40) || decide ((b2.length : Int) > 40)) = true then none else
      if decide ((b2.length : Int) < (a2.length : Int)) = true then lastO b2 a2 mx else lastO a2 b2 mx
noncomputable def dots (n : Nat) : Str := ⟨(List.replicate n 46).toArray⟩
noncomputable def marksS : List Str := ["ax", "Ay", "bx", "BX", "aX"]
noncomputable def rowS (k d : Nat) : Str := dots d ++ marksS.getD k ""
noncomputable def costZ (i j : Nat) : Int := (costP (one ((Txt.charAt (marksS.getD i "") 0).getD 0)) (one ((Txt.charAt (marksS.getD j "") 0).getD 0))) + (costP (one ((Txt.charAt (marksS.getD i "") 1).getD 0)) (one ((Txt.charAt (marksS.getD j "") 1).getD 0)))
noncomputable def dueZ (i j di dj : Nat) : Int := 2 * (((dj : Int) - (di : Int)).natAbs : Int) + costZ i j
theorem lev_ok : ∀ x < 5, ∀ y < 5, ∀ z < 3, levO (rowS 0 (x + 2)) (rowS 1 (y + 2)) (dueZ 0 1 (x + 2) (y + 2) + ((z : Nat) : Int) - 1) = some (dueZ 0 1 (x + 2) (y + 2)) := by decide +kernel

-- C31
set_option maxRecDepth 100000
theorem size_two (n : Nat) : Builtin.Range.rangeSize 2 (2 * ((n : Int) + 1)) 2 = (n : Nat) := by
  unfold Builtin.Range.rangeSize
  rw [if_pos (by decide)]
  split <;> omega
theorem small_two (n : Nat) (h : n ≤ 40) : Builtin.Range.small 2 (2 * ((n : Int) + 1)) 2 = true := by
  unfold Builtin.Range.small
  rw [size_two]
  simp [Builtin.Range.rangeFitsLong]
  omega

theorem innerO_succ {a bc : Str} {m i : Nat} {row : List Int} {dist res mn : Int} {R : List Int × Int × Int × Int} (hi : i < m) (h : innerO a bc (m - i) i row dist res mn = some R) :
    ∃ c d', Txt.charAt a i = some c ∧ row[i]? = some d' ∧ innerO a bc (m - (i + 1)) (i + 1) (row.set i (if dist + costP bc (one c) < (if d' < res then d' else res) + 2 then dist + costP bc (one c) else (if d' < res then d' else res) + 2)) d' (if dist + costP bc (one c) < (if d' < res then d' else res) + 2 then dist + costP bc (one c) else (if d' < res then d' else res) + 2) (if decide ((if dist + costP bc (one c) < (if d' < res then d' else res) + 2 then dist + costP bc (one c) else (if d' < res then d' else res) + 2) < mn) = true then (if dist + costP bc (one c) < (if d' < res then d' else res) + 2 then dist + costP bc (one c) else (if d' < res then d' else res) + 2) else mn) = some R := by
  rw [← Nat.sub_add_cancel (Nat.sub_pos_of_lt hi), innerO] at h
  split at h
  · rename_i c d' h1 h2
    exact ⟨c, d', h1, h2, h⟩
  · cases h
theorem outerO_succ {a b : Str} {mx due : Int} {m bi : Nat} {row : List Int} {res : Int} (hi : bi < m) (h : outerO a b mx (m - bi) bi row res = some due) :
    ∃ c row' dist' res' mn', Txt.charAt b bi = some c ∧ innerO a (one c) a.length 0 row ((bi : Int) * 2) ((bi : Int) * 2) 9223372036854775807 = some (row', dist', res', mn') ∧ (if decide (mn' > mx) = true then some (mx + 1) else outerO a b mx (m - (bi + 1)) (bi + 1) row' res') = some due := by
  rw [← Nat.sub_add_cancel (Nat.sub_pos_of_lt hi), outerO] at h
  split at h
  · rename_i c h1
    split at h
    · rename_i h2
      exact ⟨c, _, _, _, _, h1, h2, h⟩
    · cases h
  · cases h

section
variable {G : Gd} (hG : GOK G)
include hG
theorem lev_last {a b : Str} {mx due : Int} {c1 c2 : Cell} (ha : a.length ≤ 40) (hb : b.length ≤ 40) (hL : lastO a b mx = some due) {Q : D → Prop} (hQ : Q (.int due)) : SE G 2 (scopeIn (KP G) 77) [(("a" : Str), .imm (.str a)), (("b" : Str), .imm (.str b)), (("max_cost" : Str), .imm (.int mx)), (("pre" : Str), c1), (("post" : Str), c2), (("row" : Str), .no), (("result" : Str), .no), (("bindex" : Str), .no), (("bchar" : Str), .no), (("distance" : Str), .no), (("minimum" : Str), .no), (("index" : Str), .no), (("substitute" : Str), .no), (("insert_delete" : Str), .no)] ((bodyIn (KP G) 77).drop 12) (endQ Q) := by
  conv => arg 5; whnf
  unfold lastO at hL
  ((refine se_if ?_; (repeat (walk_at "m pe"))))
  refine op_len_str (by omega) ?_
  (repeat (walk_at "m pe"))
  refine op_len_str (by omega) ?_
  (repeat (walk_at "m pe"))
  ((refine ⟨_, rfl, ifB ?_ ?_⟩))
  · intro hc
    rw [if_pos hc] at hL
    cases hL
    ((refine se_ret ?_; (repeat (walk_at "m pe"))))
    exact hQ
  · intro hc
    rw [if_neg (by rw [hc]; decide)] at hL
    (first | (refine se_nilS ?_) | (refine se_nil (seId ?_)))
    refine se_cons (s_ownR (by walk_at "m upd") (by walk_at "m gl") (by kernel_rfl) ?_)
    (repeat (walk_at "m pe"))
    refine op_len_str (by omega) ?_
    (repeat (walk_at "m pe"))
    refine op_range3 (by decide) ?_
    refine ⟨2, 2 * ((a.length : Int) + 1), 2, a.length, rfl, ?_, ?_, by omega, ?_⟩
    · exact small_two a.length ha
    · exact size_two a.length
    (first | (refine seId ?_) | (refine stR (by walk_at "m upd") ?_))
    ((walk_at "m as0"; (repeat (walk_at "m pe"))))
    (first | (refine seId ?_) | (refine stR (by walk_at "m upd") ?_))
    ((refine se_for (by intro _ _; rfl) ?_))
    refine ie_range ?_
    (repeat (walk_at "m pe"))
    refine op_len_str (by omega) ?_
    (repeat (walk_at "m pe"))
    refine op_range1 ⟨_, _, rfl, by omega, ?_⟩
    refine ForL_rangeF 0 b.length (fun i => ((i : Nat) : Int)) (fun i σ => ∃ row res, ∃ cs : Nat → Cell, outerO a b mx (b.length - i) i row res = some due ∧ row.length = a.length ∧ σ = [(("a" : Str), .imm (.str a)), (("b" : Str), .imm (.str b)), (("max_cost" : Str), .imm (.int mx)), (("pre" : Str), c1), (("post" : Str), c2), (("row" : Str), .own (row.map D.int)), (("result" : Str), .imm (.int res)), (("bindex" : Str), cs 0), (("bchar" : Str), cs 1), (("distance" : Str), cs 2), (("minimum" : Str), cs 3), (("index" : Str), cs 4), (("substitute" : Str), cs 5), (("insert_delete" : Str), cs 6)])
      (fun i => Int.zero_add _) (by omega) (fun bi hbi σ hI K hK => ?_) (fun σ hI => ?_) ⟨rowO a.length, 0, cf [_, _, _, _, _, _, _], hL, by simp [rowO], by unfold rowO; rw [List.map_map]; rfl⟩
    · obtain ⟨row, res, cs, hO, hrow, rfl⟩ := hI
      obtain ⟨bc, row', dist', res', mn', hcb, hin, hO⟩ := outerO_succ hbi hO
      ((refine ae_nm (by walk_at "m upd") ?_))
      ((walk_at "m as0"; (repeat (walk_at "m pe"))))
      refine op_item_strN (by omega) hcb ?_
      (first | (refine seId ?_) | (refine stR (by walk_at "m upd") ?_))
      refine se_cons (s_assign_two (i := 9) (j := 6) (c1 := .imm (.int res)) rfl ?_ (by intro _; rfl) (by intro _; rfl))
      (repeat (walk_at "m pe"))
      refine ⟨.int _, rfl, ?_⟩
      simp only [List.set_cons_succ, List.set_cons_zero]
      ((walk_at "m as0"; (repeat (walk_at "m pe"))))
      (first | (refine seId ?_) | (refine stR (by walk_at "m upd") ?_))
      ((refine se_for (by intro _ _; rfl) ?_))
      refine ie_range ?_
      (repeat (walk_at "m pe"))
      refine op_len_str (by omega) ?_
      (repeat (walk_at "m pe"))
      refine op_range1 ⟨_, _, rfl, by omega, ?_⟩
      refine ForL_rangeF 0 a.length (fun i => ((i : Nat) : Int)) (fun x σ => ∃ row dist res mn, ∃ cs : Nat → Cell, innerO a (one bc) (a.length - x) x row dist res mn = some (row', dist', res', mn') ∧ row.length = a.length ∧ σ = [(("a" : Str), .imm (.str a)), (("b" : Str), .imm (.str b)), (("max_cost" : Str), .imm (.int mx)), (("pre" : Str), c1), (("post" : Str), c2), (("row" : Str), .own (row.map D.int)), (("result" : Str), .imm (.int res)), (("bindex" : Str), .imm (.int (bi : Nat))), (("bchar" : Str), .imm (.str (one bc))), (("distance" : Str), .imm (.int dist)), (("minimum" : Str), .imm (.int mn)), (("index" : Str), cs 0), (("substitute" : Str), cs 1), (("insert_delete" : Str), cs 2)])
        (fun i => Int.zero_add _) (by omega) (fun x hx σ hI K hK => ?_) (fun σ hI => ?_) ⟨row, _, _, _, cf [_, _, _], hin, hrow, rfl⟩
      · obtain ⟨row, dist, res, mn, cs, hN, hrow, rfl⟩ := hI
        obtain ⟨ac, d', hca, hrx, hN⟩ := innerO_succ hx hN
        ((refine ae_nm (by walk_at "m upd") ?_))
        ((walk_at "m as0"; (repeat (walk_at "m pe"))))
        refine op_item_strN (by omega) hca ?_
        (repeat (walk_at "m pe"))
        refine (spec_cost hG (x := one bc) (y := one ac) (by show 1 ≤ 1000; decide) (by show 1 ≤ 1000; decide) ?_).le (by omega)
        (repeat (walk_at "m pe"))
        (first | (refine seId ?_) | (refine stR (by walk_at "m upd") ?_))
        refine se_asgF (by intro _; rfl) ?_; (repeat (walk_at "m pe"))
        refine op_item_list (d := .int d') (by omega) (by simp [hrx]) ?_
        refine ⟨.int _, ?_⟩
        (first | (refine seId ?_) | (refine stR (by walk_at "m upd") ?_))
        ((walk_at "m as0"; (repeat (walk_at "m pe"))))
        refine op_min ?_
        (repeat (walk_at "m pe"))
        (first | (refine seId ?_) | (refine stR (by walk_at "m upd") ?_))
        ((walk_at "m as0"; (repeat (walk_at "m pe"))))
        refine op_min ?_
        (first | (refine seId ?_) | (refine stR (by walk_at "m upd") ?_))
        refine se_set (by walk_at "m upd") (by walk_at "m upd") (by simp; omega) (by intro _; rfl) ?_
        refine pe_name (by walk_at "m mem") (stR_own (List.map_set ..).symm (by walk_at "m upd") ?_)
        ((refine se_if ?_; (repeat (walk_at "m pe"))))
        ((refine ⟨_, rfl, ifB ?_ ?_⟩))
        · intro hm
          ((walk_at "m as0"; (repeat (walk_at "m pe"))))
          (first | (refine seId ?_) | (refine stR (by walk_at "m upd") ?_))
          (first | (refine se_nilS ?_) | (refine se_nil (seId ?_)))
          exact se_nil (hK _ ⟨_, _, _, _, cf [_, _, _], by rw [if_pos hm] at hN; exact hN, by simp [hrow], rfl⟩)
        · intro hm
          (first | (refine se_nilS ?_) | (refine se_nil (seId ?_)))
          exact se_nil (hK _ ⟨_, _, _, _, cf [_, _, _], by rw [hm, if_neg Bool.false_ne_true] at hN; exact hN, by simp [hrow], rfl⟩)
      · obtain ⟨row, dist, res, mn, cs, hN, hrow, rfl⟩ := hI
        rw [Nat.sub_self, innerO] at hN
        cases hN
        (first | (refine se_nilS ?_) | (refine se_nil (seId ?_)))
        ((refine se_if ?_; (repeat (walk_at "m pe"))))
        ((refine ⟨_, rfl, ifB ?_ ?_⟩))
        · intro hm
          rw [if_pos hm] at hO
          cases hO
          ((refine se_ret ?_; (repeat (walk_at "m pe"))))
          exact hK _ hQ
        · intro hm
          (first | (refine se_nilS ?_) | (refine se_nil (seId ?_)))
          exact se_nil (hK _ ⟨_, _, cf [_, _, _, _, _, _, _], by rw [if_neg (by rw [hm]; decide)] at hO; exact hO, hrow, rfl⟩)
    · obtain ⟨row, res, cs, hO, hrow, rfl⟩ := hI
      rw [Nat.sub_self, outerO] at hO
      cases hO
      (first | (refine se_nilS ?_) | (refine se_nil (seId ?_)))
      ((refine se_ret ?_; (repeat (walk_at "m pe"))))
      exact hQ
end

-- C32
set_option maxRecDepth 100000
theorem slTo_le (x : Str) (p : Int) : (slTo x p).length ≤ x.length := Txt.slice_le x _ _
theorem sl_le (x : Str) (p : Int) : (sl x p).length ≤ x.length := Txt.slice_le x _ _
noncomputable def midO (a b : Str) (q : Nat) (mx : Int) : Option Int :=
  if (!(((slTo a (-(q : Int))).length : Int) != 0) || !(((slTo b (-(q : Int))).length : Int) != 0)) = true then some (2 * (((slTo a (-(q : Int))).length : Int) + ((slTo b (-(q : Int))).length : Int))) else
      if (decide (((slTo a (-(q : Int))).length : Int) > 40) || decide (((slTo b (-(q : Int))).length : Int) > 40)) = true then none else
      if decide (((slTo b (-(q : Int))).length : Int) < ((slTo a (-(q : Int))).length : Int)) = true then lastO (slTo b (-(q : Int))) (slTo a (-(q : Int))) mx else lastO (slTo a (-(q : Int))) (slTo b (-(q : Int))) mx

section
variable {G : Gd}
/-- «x[:post or None]» -/
theorem pe_slTo {k : Nat} {sc : Scope} {ρ : List (Str × D)} {x : Str} {n : Str} {p1 p2 p3 p4 p5 p6 : Pos} {m : Nat} {q : Int} {Q : D → Prop} (hx : (n, D.str x) ∈ ρ) (hp : (("post" : Str), D.int q) ∈ ρ) (hl : x.length ≤ 1000) (hQ : Q (.str (slTo x q))) :
    PE G k sc ρ (.Subscript (.Name n p1) (.Slice none (some (.BoolOp .Or [.Name "post" p2, .Constant .none m p3] p4)) none p5) p6) Q := by
  refine pe_slice (pe_name hx (po_none (po_some (pe_or (pe_name hp (ob_int ?_))))))
  unfold slTo at hQ
  refine ifB ?_ ?_
  · intro hc
    rw [if_pos hc] at hQ
    exact ⟨_, .int _, .inl ⟨_, rfl, by omega, hQ⟩⟩
  · intro hc
    rw [if_neg (by rw [hc]; decide)] at hQ
    exact pe_none ⟨_, .none, .inl ⟨_, rfl, by omega, hQ⟩⟩

end

section
variable {G : Gd} (hG : GOK G)
include hG

theorem lev_mid {a b : Str} {q : Nat} {mx due : Int} {c1 : Cell} (ha : a.length ≤ 1000) (hb : b.length ≤ 1000) (hL : midO a b q mx = some due) {Q : D → Prop} (hQ : Q (.int due)) : SE G 2 (scopeIn (KP G) 77) [(("a" : Str), .imm (.str a)), (("b" : Str), .imm (.str b)), (("max_cost" : Str), .imm (.int mx)), (("pre" : Str), c1), (("post" : Str), .imm (.int (-(q : Nat)))), (("row" : Str), .no), (("result" : Str), .no), (("bindex" : Str), .no), (("bchar" : Str), .no), (("distance" : Str), .no), (("minimum" : Str), .no), (("index" : Str), .no), (("substitute" : Str), .no), (("insert_delete" : Str), .no)] ((bodyIn (KP G) 77).drop 7) (endQ Q) := by
  conv => arg 5; whnf
  have la := slTo_le a (-(q : Int))
  have lb := slTo_le b (-(q : Int))
  unfold midO at hL
  walk_at "m as0"
  (with_reducible refine' pe_slTo ?m1 ?m2 ?l ?_); (case m1 => walk_at "m mem"); (case m2 => walk_at "m mem"); (case l => omega)
  (first | (refine seId ?_) | (refine stR (by walk_at "m upd") ?_))
  walk_at "m as0"
  (with_reducible refine' pe_slTo ?m1 ?m2 ?l ?_); (case m1 => walk_at "m mem"); (case m2 => walk_at "m mem"); (case l => omega)
  (first | (refine seId ?_) | (refine stR (by walk_at "m upd") ?_))
  generalize hA : slTo a (-(q : Int)) = A at hL la ⊢
  generalize hB : slTo b (-(q : Int)) = B at hL lb ⊢
  ((refine se_if ?_; (repeat (walk_at "m pe"))))
  refine ob_str (by omega) (ifB ?_ ?_)
  · intro hc
    rw [if_pos (by rw [hc]; rfl)] at hL
    cases hL
    refine ifT rfl ?_
    ((refine se_ret ?_; (repeat (walk_at "m pe"))))
    refine op_len_str (by omega) ?_
    (repeat (walk_at "m pe"))
    refine op_len_str (by omega) ?_
    (repeat (walk_at "m pe"))
    exact hQ
  intro hc
  (repeat (walk_at "m pe"))
  refine ob_str (by omega) (ifB ?_ ?_)
  · intro hc2
    rw [if_pos (by rw [hc2, Bool.or_true])] at hL
    cases hL
    refine ifT rfl ?_
    ((refine se_ret ?_; (repeat (walk_at "m pe"))))
    refine op_len_str (by omega) ?_
    (repeat (walk_at "m pe"))
    refine op_len_str (by omega) ?_
    (repeat (walk_at "m pe"))
    exact hQ
  intro hc2
  rw [if_neg (by rw [hc, hc2]; decide)] at hL
  (repeat (walk_at "m pe"))
  refine ifF rfl ?_
  (first | (refine se_nilS ?_) | (refine se_nil (seId ?_)))
  ((refine se_if ?_; (repeat (walk_at "m pe"))))
  refine op_len_str (by omega) ?_
  (repeat (walk_at "m pe"))
  cases h40 : (decide ((A.length : Int) > 40) || decide ((B.length : Int) > 40)) with
  | true => rw [h40] at hL; cases hL
  | false =>
    rw [h40, if_neg Bool.false_ne_true] at hL
    simp only [Bool.or_eq_false_iff] at h40
    refine ⟨_, rfl, ?_⟩
    rw [h40.1]
    refine ifF rfl ?_
    (repeat (walk_at "m pe"))
    refine op_len_str (by omega) ?_
    (repeat (walk_at "m pe"))
    refine ⟨_, rfl, ?_⟩
    rw [h40.2]
    refine ifF rfl ?_
    (repeat (walk_at "m pe"))
    refine ifF rfl ?_
    (first | (refine se_nilS ?_) | (refine se_nil (seId ?_)))
    have hA40 : A.length ≤ 40 := by have := h40.1; simp at this; omega
    have hB40 : B.length ≤ 40 := by have := h40.2; simp at this; omega
    ((refine se_if ?_; (repeat (walk_at "m pe"))))
    refine op_len_str (by omega) ?_
    (repeat (walk_at "m pe"))
    refine op_len_str (by omega) ?_
    (repeat (walk_at "m pe"))
    ((refine ⟨_, rfl, ifB ?_ ?_⟩))
    · intro hs
      rw [if_pos hs] at hL
      refine se_cons (s_swap (i := 0) (j := 1) rfl rfl rfl (by walk_at "m mem") (by walk_at "m mem") ?_ (by intro _; rfl) ?_)
      · simp only [List.set_cons_succ, List.set_cons_zero]
        (first | (refine se_nilS ?_) | (refine se_nil (seId ?_)))
        exact lev_last hG hB40 hA40 hL hQ
      · intro env he; cases env; cases he; first | rfl | kernel_rfl
    · intro hs
      rw [if_neg (by rw [hs]; decide)] at hL
      (first | (refine se_nilS ?_) | (refine se_nil (seId ?_)))
      exact lev_last hG hA40 hB40 hL hQ
end

-- C33
set_option maxRecDepth 100000
section
variable {G : Gd} (hG : GOK G)
include hG
theorem lev_post {a b : Str} {P : Nat} {mx due : Int} {c1 : Cell} (ha : a.length ≤ 1000) (hb : b.length ≤ 1000) (hP : postO a b 50 0 = some P) (hL : midO a b P mx = some due) {Q : D → Prop} (hQ : Q (.int due)) : SE G 2 (scopeIn (KP G) 77) [(("a" : Str), .imm (.str a)), (("b" : Str), .imm (.str b)), (("max_cost" : Str), .imm (.int mx)), (("pre" : Str), c1), (("post" : Str), .no), (("row" : Str), .no), (("result" : Str), .no), (("bindex" : Str), .no), (("bchar" : Str), .no), (("distance" : Str), .no), (("minimum" : Str), .no), (("index" : Str), .no), (("substitute" : Str), .no), (("insert_delete" : Str), .no)] ((bodyIn (KP G) 77).drop 5) (endQ Q) := by
  conv => arg 5; whnf
  ((walk_at "m as0"; (repeat (walk_at "m pe"))))
  (first | (refine seId ?_) | (refine stR (by walk_at "m upd") ?_))
  refine se_cons (s_while (fun f σ => ∃ q : Nat, q ≤ 50 - f ∧ f ≤ 50 ∧ postO a b f q = some P ∧ σ = [(("a" : Str), .imm (.str a)), (("b" : Str), .imm (.str b)), (("max_cost" : Str), .imm (.int mx)), (("pre" : Str), c1), (("post" : Str), .imm (.int (-(q : Nat)))), (("row" : Str), .no), (("result" : Str), .no), (("bindex" : Str), .no), (("bchar" : Str), .no), (("distance" : Str), .no), (("minimum" : Str), .no), (("index" : Str), .no), (("substitute" : Str), .no), (("insert_delete" : Str), .no)]) 50 ⟨0, by omega, by omega, hP, rfl⟩ (fun f σ hI K hK => ?_))
  obtain ⟨q, hq, hf, hp, rfl⟩ := hI
  cases f with
  | zero => cases hp
  | succ f =>
    rw [postO] at hp
    have la := slTo_le a (-(q : Int))
    have lb := slTo_le b (-(q : Int))
    refine te_and ?_
    refine te_plain ?_ (by intro _ _; rfl)
    (with_reducible refine' pe_slTo ?m1 ?m2 ?l ?_); (case m1 => walk_at "m mem"); (case m2 => walk_at "m mem"); (case l => omega)
    refine ob_str (by omega) (ifB ?_ ?_)
    · intro h1
      rw [if_pos h1] at hp
      refine te_and ?_
      refine te_plain ?_ (by intro _ _; rfl)
      (with_reducible refine' pe_slTo ?m1 ?m2 ?l ?_); (case m1 => walk_at "m mem"); (case m2 => walk_at "m mem"); (case l => omega)
      refine ob_str (by omega) (ifB ?_ ?_)
      · intro h2
        rw [if_pos h2] at hp
        (repeat (walk_at "m pe"))
        cases hca : Txt.charAt a (-(q : Int) - 1) with
        | none => rw [hca] at hp; cases hp
        | some ca =>
          cases hcb : Txt.charAt b (-(q : Int) - 1) with
          | none => rw [hca, hcb] at hp; cases hp
          | some cb =>
            rw [hca, hcb] at hp
            dsimp only at hp
            refine op_item_strN (by omega) hca ?_
            (repeat (walk_at "m pe"))
            refine op_item_strN (by omega) hcb ?_
            (repeat (walk_at "m pe"))
            ((refine ⟨_, rfl, ifB ?_ ?_⟩))
            · intro h3
              have h3' : ((one ca).cps.toList == (one cb).cps.toList) = true := h3
              rw [if_pos h3'] at hp
              refine te_and_nil (ifT rfl ?_)
              refine se_aug (by walk_at "m upd") ?_; (repeat (walk_at "m pe"))
              refine op_isub ⟨.int _, ?_⟩
              rw [show -(q : Int) - 1 = -((q + 1 : Nat) : Int) by omega]
              (first | (refine seId ?_) | (refine stR (by walk_at "m upd") ?_))
              exact se_nil (hK _ ⟨f, by omega, q + 1, by omega, by omega, hp, rfl⟩)
            · intro h3
              have h3' : ((one ca).cps.toList == (one cb).cps.toList) = false := h3
              rw [if_neg (by rw [h3']; decide)] at hp
              refine ifF rfl ?_
              cases hp
              (first | (refine se_nilS ?_) | (refine se_nil (seId ?_)))
              exact lev_mid hG ha hb hL hQ
      · intro h2
        rw [if_neg (by rw [h2]; decide)] at hp
        refine ifF rfl ?_
        cases hp
        (first | (refine se_nilS ?_) | (refine se_nil (seId ?_)))
        exact lev_mid hG ha hb hL hQ
    · intro h1
      rw [if_neg (by rw [h1]; decide)] at hp
      refine ifF rfl ?_
      cases hp
      (first | (refine se_nilS ?_) | (refine se_nil (seId ?_)))
      exact lev_mid hG ha hb hL hQ
end

-- C34
set_option maxRecDepth 100000
section
variable {G : Gd} (hG : GOK G)
include hG
theorem lev_cut {a b : Str} {P R : Nat} {mx due : Int} (ha : a.length ≤ 1000) (hb : b.length ≤ 1000) (hR : postO (sl a P) (sl b P) 50 0 = some R) (hL : midO (sl a P) (sl b P) R mx = some due) {Q : D → Prop} (hQ : Q (.int due)) :
    SE G 2 (scopeIn (KP G) 77) [(("a" : Str), .imm (.str a)), (("b" : Str), .imm (.str b)), (("max_cost" : Str), .imm (.int mx)), (("pre" : Str), .imm (.int (P : Nat))), (("post" : Str), .no), (("row" : Str), .no), (("result" : Str), .no), (("bindex" : Str), .no), (("bchar" : Str), .no), (("distance" : Str), .no), (("minimum" : Str), .no), (("index" : Str), .no), (("substitute" : Str), .no), (("insert_delete" : Str), .no)] ((bodyIn (KP G) 77).drop 3) (endQ Q) := by
  have la := sl_le a (P : Nat)
  have lb := sl_le b (P : Nat)
  conv => arg 5; whnf
  walk_at "m as0"
  refine pe_slice ?_
  (repeat (walk_at "m pe"))
  refine po_some ?_
  (repeat (walk_at "m pe"))
  refine ⟨_, .int _, po_none (.inl ⟨_, rfl, by omega, ?_⟩)⟩
  (first | (refine seId ?_) | (refine stR (by walk_at "m upd") ?_))
  walk_at "m as0"
  refine pe_slice ?_
  (repeat (walk_at "m pe"))
  refine po_some ?_
  (repeat (walk_at "m pe"))
  refine ⟨_, .int _, po_none (.inl ⟨_, rfl, by omega, ?_⟩)⟩
  (first | (refine seId ?_) | (refine stR (by walk_at "m upd") ?_))
  exact lev_post hG (by omega) (by omega) hR hL hQ
theorem spec_lev {a b : Str} {mx due : Int} (ha : a.length ≤ 1000) (hb : b.length ≤ 1000) (hL : levO a b mx = some due) {Q : D → Prop} (hQ : Q (.int due)) : OpL G 3 (fun vs => call (.ref 77) vs) [.str a, .str b, .int mx] Q := by
  refine fn_spec (others := ["pre", "post", "row", "result", "bindex", "bchar", "distance", "minimum", "index", "substitute", "insert_delete"]) (F77 hG) (by kernel_rfl) rfl ?_
  ((conv => arg 5; whnf); dsimp only [sto0, List.zip, List.zipWith, List.map, List.cons_append, List.nil_append])
  unfold levO at hL
  ((refine se_if ?_; (repeat (walk_at "m pe"))))
  ((refine ⟨_, rfl, ifB ?_ ?_⟩))
  · intro hc
    rw [if_pos hc] at hL
    cases hL
    ((refine se_ret ?_; (repeat (walk_at "m pe"))))
    exact hQ
  · intro hc
    rw [if_neg (by rw [hc]; decide)] at hL
    (first | (refine se_nilS ?_) | (refine se_nil (seId ?_)))
    cases hP : preO a b 50 0 with
    | none => rw [hP] at hL; cases hL
    | some P =>
      rw [hP] at hL
      dsimp only at hL
      cases hR : postO (sl a P) (sl b P) 50 0 with
      | none => rw [hR] at hL; cases hL
      | some R =>
        rw [hR] at hL
        have hL : midO (sl a P) (sl b P) R mx = some due := hL
        ((walk_at "m as0"; (repeat (walk_at "m pe"))))
        (first | (refine seId ?_) | (refine stR (by walk_at "m upd") ?_))
        refine se_cons (s_while (fun f σ => ∃ p : Nat, p ≤ 50 - f ∧ f ≤ 50 ∧ preO a b f p = some P ∧ σ = [(("a" : Str), .imm (.str a)), (("b" : Str), .imm (.str b)), (("max_cost" : Str), .imm (.int mx)), (("pre" : Str), .imm (.int (p : Nat))), (("post" : Str), .no), (("row" : Str), .no), (("result" : Str), .no), (("bindex" : Str), .no), (("bchar" : Str), .no), (("distance" : Str), .no), (("minimum" : Str), .no), (("index" : Str), .no), (("substitute" : Str), .no), (("insert_delete" : Str), .no)]) 50 ⟨0, by omega, by omega, hP, rfl⟩ (fun f σ hI K hK => ?_))
        obtain ⟨p, hp50, hf, hp, rfl⟩ := hI
        cases f with
        | zero => cases hp
        | succ f =>
          rw [preO] at hp
          have la := sl_le a (p : Int)
          have lb := sl_le b (p : Int)
          (repeat (walk_at "m pe"))
          refine po_some ?_
          (repeat (walk_at "m pe"))
          refine ⟨_, .int _, po_none (.inl ⟨_, rfl, by omega, ?_⟩)⟩
          refine ob_str (by show (sl a p).length ≤ _; omega) (ifB ?_ ?_)
          · intro h1
            have h1' : (((sl a p).length : Int) != 0) = true := h1
            rw [if_pos h1'] at hp
            (repeat (walk_at "m pe"))
            refine po_some ?_
            (repeat (walk_at "m pe"))
            refine ⟨_, .int _, po_none (.inl ⟨_, rfl, by omega, ?_⟩)⟩
            refine ob_str (by show (sl b p).length ≤ _; omega) (ifB ?_ ?_)
            · intro h2
              have h2' : (((sl b p).length : Int) != 0) = true := h2
              rw [if_pos h2'] at hp
              (repeat (walk_at "m pe"))
              cases hca : Txt.charAt a p with
              | none => rw [hca] at hp; cases hp
              | some ca =>
                cases hcb : Txt.charAt b p with
                | none => rw [hca, hcb] at hp; cases hp
                | some cb =>
                  rw [hca, hcb] at hp
                  dsimp only at hp
                  refine op_item_strN (by omega) hca ?_
                  (repeat (walk_at "m pe"))
                  refine op_item_strN (by omega) hcb ?_
                  (repeat (walk_at "m pe"))
                  ((refine ⟨_, rfl, ifB ?_ ?_⟩))
                  · intro h3
                    have h3' : ((one ca).cps.toList == (one cb).cps.toList) = true := h3
                    rw [if_pos h3'] at hp
                    refine te_and_nil (ifT rfl ?_)
                    refine se_aug (by walk_at "m upd") ?_; (repeat (walk_at "m pe"))
                    refine op_iadd ⟨.int _, ?_⟩
                    rw [show (p : Int) + 1 = ((p + 1 : Nat) : Int) by omega]
                    (first | (refine seId ?_) | (refine stR (by walk_at "m upd") ?_))
                    exact se_nil (hK _ ⟨f, by omega, p + 1, by omega, by omega, hp, rfl⟩)
                  · intro h3
                    have h3' : ((one ca).cps.toList == (one cb).cps.toList) = false := h3
                    rw [if_neg (by rw [h3']; decide)] at hp
                    refine ifF rfl ?_
                    cases hp
                    (first | (refine se_nilS ?_) | (refine se_nil (seId ?_)))
                    exact lev_cut hG ha hb hR hL hQ
            · intro h2
              have h2' : (((sl b p).length : Int) != 0) = false := h2
              rw [if_neg (by rw [h2']; decide)] at hp
              refine ifF rfl ?_
              cases hp
              (first | (refine se_nilS ?_) | (refine se_nil (seId ?_)))
              exact lev_cut hG ha hb hR hL hQ
          · intro h1
            have h1' : (((sl a p).length : Int) != 0) = false := h1
            rw [if_neg (by rw [h1']; decide)] at hp
            refine ifF rfl ?_
            cases hp
            (first | (refine se_nilS ?_) | (refine se_nil (seId ?_)))
            exact lev_cut hG ha hb hR hL hQ
end

-- C35
set_option maxRecDepth 512
structure ZAp (z TI TO i1 i2 : Addr) : Prop where
  TIz : TI ≠ z
  TOz : TO ≠ z
  i1z : i1 ≠ z
  i2z : i2 ≠ z
  TITO : TI ≠ TO
  TIi1 : TI ≠ i1
  TIi2 : TI ≠ i2
  TOi1 : TO ≠ i1
  TOi2 : TO ≠ i2
  i12 : i1 ≠ i2
noncomputable abbrev StrIt (h : Heap) (i : Addr) (x : Str) (t : Tok) (k : Nat) : Prop := h.IsStrIter i "str_ascii_iterator" x t k
theorem strIt_at {h h' : Heap} {i : Addr} {x : Str} {t : Tok} {k : Nat} (s : StrIt h i x t k) (e : ∀ o, h.get? i = some o → h'.get? i = some o) : StrIt h' i x t k :=
  let ⟨o, ho, r⟩ := s; ⟨o, e o ho, r⟩

section
variable {prog : Program} {w : World} {A : Around} {E : Value → Shared → Prop} {s : Shared}
theorem zs_item {z TI TO i1 i2 : Addr} {k c d : Nat} {x y : Str} {t u : Tok} {a b : Value} {Q : Option Value → Shared → Prop} (D : ZAp z TI TO i1 i2)
    (hz : IsZip s.heap z TI TO .none) (hTI : IsPair s.heap TI (.ref i1) (.ref i2)) (hTO : IsPair s.heap TO a b) (h1 : StrIt s.heap i1 x t k) (h2 : StrIt s.heap i2 y u k) (hx : x.cps[k]? = some c) (hy : y.cps[k]? = some d)
    (hQ : ∀ h' tk t1 t2, IsZip h' z TI TO (rawInt s.heap.objs.size) → IsPair h' TI (.ref i1) (.ref i2) → IsPair h' TO (.str ⟨#[c]⟩ t1) (.str ⟨#[d]⟩ t2) → StrIt h' i1 x t (k + 1) → StrIt h' i2 y u (k + 1) → IsPair h' s.heap.objs.size (.str ⟨#[c]⟩ t1) (.str ⟨#[d]⟩ t2) →
      (∀ c o, c ∉ [z, TO, i1, i2] → s.heap.get? c = some o → h'.get? c = some o) → Q (some (.ref s.heap.objs.size)) { s with heap := h', toks := tk }) :
    wpAny (model prog w) A (pyNext (.ref z)) Q E s := by
  have hT : s.TypeIs (.ref z) "zip" := ⟨_, hz, rfl⟩
  unfold pyNext
  refine wpAny_bind (wpAny_attempt (wpAny_callSpecial?_slot (name := Str.ofString "__next__") hT PySem.F.slot_zip_next (wpAny_call_entry PySem.F.slot_zip_next hT PySem.F.entry_zip_next ?_ (PySem.F.args_zip_next_1 _))))
  show wpAny _ _ (field (.ref z) 2 >>= _) _ _ _
  refine wpAny_bind (wpAny_field hz rfl (x := .bool false) rfl ?_)
  show wpAny _ _ (field (.ref z) 3 >>= _) _ _ _
  refine wpAny_bind (wpAny_field hz rfl (x := .ref TI) rfl ?_)
  refine wpAny_bind (wpAny_seqItems hTI rfl ?_)
  show wpAny _ _ (Builtin.SmallTypes.ownedTupleIsFree (.ref z) >>= _) _ _ _
  refine wpAny_bind ?_
  unfold Builtin.SmallTypes.ownedTupleIsFree
  refine wpAny_bind (wpAny_field hz rfl (x := .none) rfl (wpAny_pure ?_))
  simp only [if_true]
  refine wpAny_bind (wpAny_rule ?_)
  refine wpAny_bind (wpAny_field hz rfl (x := .ref TO) rfl ?_)
  refine wpAny_bind (wpAny_setField_rec hz (by simp) fun h₁ hz₁ hs₁ => ?_)
  replace hz₁ : IsZip h₁ z TI TO .ellipsis := hz₁
  refine wpAny_bind ?_
  simp only [List.zipIdx_cons, List.zipIdx_nil, List.forIn_cons, List.forIn_nil]
  refine wpAny_bind (wpAny_bind (wpAny_onRaise ?_))
  show wpAny _ _ (Builtin.SmallTypes.nextOf (.ref i1) >>= _) _ _ _
  refine wpAny_bind (wpAny_nextOf_ascii_item (strIt_at h1 fun o e => hs₁.extBut _ _ D.i1z e) hx fun h₂ h1₂ hs₂ => wpAny_pure ?_)
  have hTO₂ : IsPair h₂ TO a b := hs₂.extBut _ _ D.TOi1 (hs₁.extBut _ _ D.TOz hTO)
  refine wpAny_bind (wpAny_seqItems hTO₂ rfl ?_)
  refine wpAny_bind (wpAny_updateSeq_pair hTO₂ fun h₃ hTO₃ hs₃ => ?_)
  replace hTO₃ : IsPair h₃ TO (.str ⟨#[c]⟩ s.toks) b := hTO₃
  refine wpAny_bind (wpAny_letGo (wpAny_pure ?_))
  refine wpAny_bind (wpAny_bind (wpAny_onRaise ?_))
  show wpAny _ _ (Builtin.SmallTypes.nextOf (.ref i2) >>= _) _ _ _
  refine wpAny_bind (wpAny_nextOf_ascii_item (strIt_at h2 fun o e => hs₃.extBut _ _ D.TOi2.symm (hs₂.extBut _ _ D.i12.symm (hs₁.extBut _ _ D.i2z e))) hy fun h₄ h2₄ hs₄ => wpAny_pure ?_)
  have hTO₄ := hs₄.extBut _ _ D.TOi2 hTO₃
  refine wpAny_bind (wpAny_seqItems hTO₄ rfl ?_)
  refine wpAny_bind (wpAny_updateSeq_pair hTO₄ fun h₅ hTO₅ hs₅ => ?_)
  replace hTO₅ : IsPair h₅ TO (.str ⟨#[c]⟩ s.toks) (.str ⟨#[d]⟩ (s.toks + 1)) := hTO₅
  refine wpAny_bind (wpAny_letGo (wpAny_pure (wpAny_pure ?_)))
  refine wpAny_bind (wpAny_seqItems hTO₅ rfl ?_)
  refine wpAny_bind (wpAny_newTuple ?_)
  have hsz : h₅.objs.size = s.heap.objs.size := by rw [hs₅.1, hs₄.1, hs₃.1, hs₂.1, hs₁.1]
  have hz₅ : IsZip h₅ z TI TO .ellipsis := hs₅.extBut _ _ D.TOz.symm (hs₄.extBut _ _ D.i2z.symm (hs₃.extBut _ _ D.TOz.symm (hs₂.extBut _ _ D.i1z.symm hz₁)))
  have hk₅ : ∀ c o, c ∉ [z, TO, i1, i2] → s.heap.get? c = some o → h₅.get? c = some o := fun c o hc e => by
    simp at hc
    obtain ⟨c1, c2, c3, c4⟩ := hc
    exact hs₅.extBut _ _ c2 (hs₄.extBut _ _ c4 (hs₃.extBut _ _ c2 (hs₂.extBut _ _ c3 (hs₁.extBut _ _ c1 e))))
  have h1₅ : StrIt h₅ i1 x t (k + 1) := strIt_at h1₂ fun o e => hs₅.extBut _ _ D.TOi1.symm (hs₄.extBut _ _ D.i12 (hs₃.extBut _ _ D.TOi1.symm e))
  have h2₅ : StrIt h₅ i2 y u (k + 1) := strIt_at h2₄ fun o e => hs₅.extBut _ _ D.TOi2.symm e
  have hzlt : z < h₅.objs.size := Heap.lt_size hz₅
  show wpAny _ _ (Builtin.SmallTypes.ownedTupleHandOut (.ref z) (.ref h₅.objs.size) >>= _) _ _ _
  refine wpAny_bind ?_
  unfold Builtin.SmallTypes.ownedTupleHandOut
  have hz₆ : IsZip (h₅.push { cls := .type "tuple", data := .seq #[.str ⟨#[c]⟩ s.toks, .str ⟨#[d]⟩ (s.toks + 1)] }) z TI TO .ellipsis := Heap.get?_push_of_some _ hz₅
  refine wpAny_bind (wpAny_setField_rec hz₆ (by simp) fun h₇ hz₇ hs₇ => ?_)
  replace hz₇ : IsZip h₇ z TI TO (rawInt h₅.objs.size) := hz₇
  refine wpAny_setField_rec hz₇ (by simp) fun h₈ hz₈ hs₈ => ?_
  replace hz₈ : IsZip h₈ z TI TO (rawInt h₅.objs.size) := hz₈
  have up : ∀ c o, c ≠ z → h₅.get? c = some o → h₈.get? c = some o := fun c o c1 e => hs₈.extBut _ _ c1 (hs₇.extBut _ _ c1 (Heap.get?_push_of_some _ e))
  have hT₈ : IsPair h₈ h₅.objs.size (.str ⟨#[c]⟩ s.toks) (.str ⟨#[d]⟩ (s.toks + 1)) := hs₈.extBut _ _ (Nat.ne_of_gt hzlt) (hs₇.extBut _ _ (Nat.ne_of_gt hzlt) (Heap.get?_push_size _ rfl))
  rw [hsz] at hz₈ hT₈
  refine wpAny_pure ⟨_, rfl, ?_⟩
  refine wpAny_pure ?_
  rw [hsz]
  exact hQ h₈ _ _ _ hz₈ (up _ _ D.TIz (hk₅ _ _ (by simp [D.TIz, D.TITO, D.TIi1, D.TIi2]) hTI)) (up _ _ D.TOz hTO₅) (strIt_at h1₅ fun o e => up _ o D.i1z e) (strIt_at h2₅ fun o e => up _ o D.i2z e) hT₈ fun c o hc e => up c o (fun q => hc (by simp [q])) (hk₅ c o hc e)
theorem zs_end {z TI TO i1 i2 : Addr} {k : Nat} {x : Str} {t : Tok} {a b : Value} {Q : Option Value → Shared → Prop} (hh : A.handled = none) (D : ZAp z TI TO i1 i2)
    (hz : IsZip s.heap z TI TO .none) (hTI : IsPair s.heap TI (.ref i1) (.ref i2)) (hTO : IsPair s.heap TO a b) (h1 : StrIt s.heap i1 x t k) (hx : x.cps[k]? = none)
    (hQ : ∀ h', (∀ c o, c ∉ [z, TO, i1, i2] → s.heap.get? c = some o → h'.get? c = some o) → Q none { s with heap := h' }) :
    wpAny (model prog w) A (pyNext (.ref z)) Q E s := by
  have hT : s.TypeIs (.ref z) "zip" := ⟨_, hz, rfl⟩
  unfold pyNext
  refine wpAny_bind (wpAny_attempt (wpAny_callSpecial?_slot (name := Str.ofString "__next__") hT PySem.F.slot_zip_next (wpAny_call_entry PySem.F.slot_zip_next hT PySem.F.entry_zip_next ?_ (PySem.F.args_zip_next_1 _))))
  show wpAny _ _ (field (.ref z) 2 >>= _) _ _ _
  refine wpAny_bind (wpAny_field hz rfl (x := .bool false) rfl ?_)
  show wpAny _ _ (field (.ref z) 3 >>= _) _ _ _
  refine wpAny_bind (wpAny_field hz rfl (x := .ref TI) rfl ?_)
  refine wpAny_bind (wpAny_seqItems hTI rfl ?_)
  show wpAny _ _ (Builtin.SmallTypes.ownedTupleIsFree (.ref z) >>= _) _ _ _
  refine wpAny_bind ?_
  unfold Builtin.SmallTypes.ownedTupleIsFree
  refine wpAny_bind (wpAny_field hz rfl (x := .none) rfl (wpAny_pure ?_))
  simp only [if_true]
  refine wpAny_bind (wpAny_rule ?_)
  refine wpAny_bind (wpAny_field hz rfl (x := .ref TO) rfl ?_)
  refine wpAny_bind (wpAny_setField_rec hz (by simp) fun h₁ hz₁ hs₁ => ?_)
  replace hz₁ : IsZip h₁ z TI TO .ellipsis := hz₁
  refine wpAny_bind ?_
  simp only [List.zipIdx_cons, List.zipIdx_nil, List.forIn_cons, List.forIn_nil]
  refine wpAny_bind (wpAny_bind (wpAny_onRaise ?_))
  show wpAny _ _ (Builtin.SmallTypes.nextOf (.ref i1) >>= _) _ _ _
  refine wpAny_bind (wpAny_nextOf_ascii_end hh (strIt_at h1 fun o e => hs₁.extBut _ _ D.i1z e) hx fun h₂ e hs₂ he => ?_)
  obtain ⟨oe, hoe, hce⟩ := he
  have hz₂ : IsZip h₂ z TI TO .ellipsis := hs₂ _ _ D.i1z.symm hz₁
  have hez : e ≠ z := fun x => by subst x; rw [hz₂] at hoe; cases hoe; simp at hce
  refine wpAny_setField_rec hz₂ (by simp) fun h₃ _ hs₃ => ?_
  refine wpAny_bind (wpAny_isInstance (T := "StopIteration") (b := true) ⟨oe, hs₃.extBut _ _ hez hoe, hce⟩ isSubtype_stop ?_)
  refine wpAny_pure (hQ _ fun c o hc e1 => ?_)
  simp at hc
  exact hs₃.extBut _ _ hc.1 (hs₂ _ _ hc.2.2.1 (hs₁.extBut _ _ hc.1 e1))
end

-- C36
set_option maxRecDepth 512
noncomputable abbrev zsH1 (h : Heap) (x : Str) (t : Tok) : Heap := h.push { cls := .type "str_ascii_iterator", data := .fields #[.str x t, .int 0 0] }
noncomputable abbrev zsH2 (h : Heap) (x y : Str) (t u : Tok) : Heap := (zsH1 h x t).push { cls := .type "str_ascii_iterator", data := .fields #[.str y u, .int 0 0] }
noncomputable abbrev zsH3 (h : Heap) (x y : Str) (t u : Tok) : Heap := (zsH2 h x y t u).push { cls := .type "tuple", data := .seq #[.ref h.objs.size, .ref (zsH1 h x t).objs.size] }
noncomputable abbrev zsH4 (h : Heap) (x y : Str) (t u : Tok) : Heap := (zsH3 h x y t u).push { cls := .type "tuple", data := .seq #[.none, .none] }
noncomputable abbrev zsH5 (h : Heap) (x y : Str) (t u : Tok) : Heap := (zsH4 h x y t u).push { cls := .type "zip", data := .fields #[.none, .bool false, .bool false, .ref (zsH2 h x y t u).objs.size, .ref (zsH3 h x y t u).objs.size] }

theorem iterAll_str {prog : Program} {w : World} {A : Around} {s : Shared} {E : Value → Shared → Prop} {Q : List Value → Shared → Prop} {x y : Str} {t u : Tok} (hx : x.cps.all (· < 128) = true) (hy : y.cps.all (· < 128) = true)
    (h : Q [.ref s.heap.objs.size, .ref (zsH1 s.heap x t).objs.size] { s with heap := zsH2 s.heap x y t u }) : wpAny (model prog w) A (Builtin.SmallTypes.iterAll [.str x t, .str y u]) Q E s := by
  unfold Builtin.SmallTypes.iterAll
  refine wpAny_bind ?_
  simp only [List.forIn_cons, List.forIn_nil]
  refine wpAny_bind (wpAny_bind (wpAny_holding (wpAny_pyIter_ascii hx (wpAny_pure ?_))))
  refine wpAny_bind (wpAny_bind (wpAny_holding (wpAny_pyIter_ascii hy (wpAny_pure ?_))))
  exact wpAny_pure (wpAny_pure h)
theorem newClass_zip {prog : Program} {w : World} {A : Around} {s : Shared} {E : Value → Shared → Prop} {Q : Value × List Value → Shared → Prop} {vs : List Value} (h : Q (.type "zip", vs) s) : wpAny (model prog w) A (Builtin.SmallTypes.newClass "zip" ⟨.type "zip" :: vs, []⟩) Q E s := by
  have hsub := sub_zip
  obtain ⟨hp, g, d, tk, os⟩ := s
  unfold Builtin.SmallTypes.newClass
  wp_walk
  exact h
theorem meets_zip_str (x y : Str) (t u : Tok) (hx : x.cps.all (· < 128) = true) (hy : y.cps.all (· < 128) = true) :
    Meets (Builtin.«zip.__new__» ⟨[.type "zip", .str x t, .str y u], []⟩) (fun _ R s => 
      R (.ok (.ret (.ref (zsH4 s.heap x y t u).objs.size))) { s with heap := zsH5 s.heap x y t u }) :=
  .of_wp fun prog w A R s h => by
    unfold Builtin.«zip.__new__»
    refine wpAny_bind (newClass_zip ?_)
    show wpAny _ _ (Builtin.SmallTypes.iterAll [.str x t, .str y u] >>= _) _ _ _
    refine wpAny_bind (iterAll_str hx hy ?_)
    refine wpAny_bind (wpAny_newTuple ?_)
    refine wpAny_bind (wpAny_newTuple ?_)
    unfold Builtin.SmallTypes.newRecord
    refine wpAny_bind (wpAny_newObj_type (wpAny_pure ⟨_, rfl, h⟩) (by show (5 : Nat) ≤ sizeLine + 2; decide))

structure ZSt (z TI TO i1 i2 : Addr) (x y : Str) (t u : Tok) (i : Nat) (h : Heap) : Prop where
  z : IsZip h z TI TO .none
  TI : IsPair h TI (.ref i1) (.ref i2)
  TO : ∃ a b, IsPair h TO a b
  i1 : StrIt h i1 x t i
  i2 : StrIt h i2 y u i
theorem ZSt.at_ {z TI TO i1 i2 : Addr} {x y : Str} {t u : Tok} {i : Nat} {h h' : Heap} (st : ZSt z TI TO i1 i2 x y t u i h) (hk : ∀ b ∈ [z, TI, TO, i1, i2], ∀ o, h.get? b = some o → h'.get? b = some o) : ZSt z TI TO i1 i2 x y t u i h' :=
  ⟨hk _ (by simp) _ st.z, hk _ (by simp) _ st.TI, let ⟨a, b, e⟩ := st.TO; ⟨a, b, hk _ (by simp) _ e⟩, strIt_at st.i1 (hk _ (by simp)), strIt_at st.i2 (hk _ (by simp))⟩
theorem ZSt.live {z TI TO i1 i2 : Addr} {x y : Str} {t u : Tok} {i : Nat} {h : Heap} (st : ZSt z TI TO i1 i2 x y t u i h) : ∀ b ∈ [z, TI, TO, i1, i2], h.get? b ≠ none := fun b hb => by
  simp at hb
  rcases hb with rfl | rfl | rfl | rfl | rfl
  · have := st.z; unfold IsZip at this; rw [this]; exact Option.some_ne_none _
  · have := st.TI; unfold IsPair at this; rw [this]; exact Option.some_ne_none _
  · obtain ⟨_, _, this⟩ := st.TO; unfold IsPair at this; rw [this]; exact Option.some_ne_none _
  · obtain ⟨o, ho, _⟩ := st.i1; rw [ho]; exact Option.some_ne_none _
  · obtain ⟨o, ho, _⟩ := st.i2; rw [ho]; exact Option.some_ne_none _

section
variable {prog : Program} {w : World} {A : Around} {E : Value → Shared → Prop} {s : Shared}

theorem call_zip_str {x y : Str} {t u : Tok} {Q : Value → Shared → Prop} (hx : x.cps.all (· < 128) = true) (hy : y.cps.all (· < 128) = true)
    (h : ∀ h', ZSt (s.heap.objs.size + 4) (s.heap.objs.size + 2) (s.heap.objs.size + 3) s.heap.objs.size (s.heap.objs.size + 1) x y t u 0 h' →
      (∀ c o, s.heap.get? c = some o → h'.get? c = some o) → Q (.ref (s.heap.objs.size + 4)) { s with heap := h' }) :
    wpAny (model prog w) A (call (.type "zip") [.str x t, .str y u]) Q E s := by
  refine callType_new F.called_zip (by decide) (F.typeCall_zip_2 _ _) (F.newCall_zip_2 _ _) (fun obj => F.args_object_init_3 obj _ _) F.entry_zip_new
    (meets_zip_str x y t u hx hy) ?_
  have z1 : (zsH1 s.heap x t).objs.size = s.heap.objs.size + 1 := Heap.size_push ..
  have z2 : (zsH2 s.heap x y t u).objs.size = s.heap.objs.size + 2 := by rw [Heap.size_push, z1]
  have z3 : (zsH3 s.heap x y t u).objs.size = s.heap.objs.size + 3 := by rw [Heap.size_push, z2]
  have z4 : (zsH4 s.heap x y t u).objs.size = s.heap.objs.size + 4 := by rw [Heap.size_push, z3]
  have g5 : (zsH5 s.heap x y t u).get? (zsH4 s.heap x y t u).objs.size = some _ := Heap.get?_push_size _ rfl
  have g4 : (zsH5 s.heap x y t u).get? (zsH3 s.heap x y t u).objs.size = some _ := Heap.get?_push_of_some _ (Heap.get?_push_size _ rfl)
  have g3 : (zsH5 s.heap x y t u).get? (zsH2 s.heap x y t u).objs.size = some _ := Heap.get?_push_of_some _ (Heap.get?_push_of_some _ (Heap.get?_push_size _ rfl))
  have g2 : (zsH5 s.heap x y t u).get? (zsH1 s.heap x t).objs.size = some _ := Heap.get?_push_of_some _ (Heap.get?_push_of_some _ (Heap.get?_push_of_some _ (Heap.get?_push_size _ rfl)))
  have g1 : (zsH5 s.heap x y t u).get? s.heap.objs.size = some _ := Heap.get?_push_of_some _ (Heap.get?_push_of_some _ (Heap.get?_push_of_some _ (Heap.get?_push_of_some _ (Heap.get?_push_size _ rfl))))
  show _ ∧ _
  rw [z2, z3, z4] at g5
  rw [z1, z2] at g3
  rw [z3] at g4
  rw [z1] at g2
  rw [z4]
  exact ⟨⟨_, g5, rfl⟩, h _ ⟨g5, g3, ⟨_, _, g4⟩, ⟨_, g1, rfl, rfl⟩, ⟨_, g2, rfl, rfl⟩⟩ fun c o x =>
    Heap.get?_push_of_some _ (Heap.get?_push_of_some _ (Heap.get?_push_of_some _ (Heap.get?_push_of_some _ (Heap.get?_push_of_some _ x))))⟩

theorem zs_turn {z TI TO i1 i2 : Addr} {i c d : Nat} {x y : Str} {t u : Tok} {elts : List Expr} {n : Nat} {tp : Pos} {X : Value → Sem Fin} {R : Fin → Shared → Prop} (D : ZAp z TI TO i1 i2) (st : ZSt z TI TO i1 i2 x y t u i s.heap) (hx : x.cps[i]? = some c) (hy : y.cps[i]? = some d)
    (h : ∀ T h' tk t1 t2, s.heap.get? T = none → T ∉ [z, TI, TO, i1, i2] → ZSt z TI TO i1 i2 x y t u (i + 1) h' → IsPair h' T (.str ⟨#[c]⟩ t1) (.str ⟨#[d]⟩ t2) → (∀ c o, c ∉ [z, TI, TO, i1, i2] → s.heap.get? c = some o → h'.get? c = some o) →
      wpAny (model prog w) A (X (.ref T)) R E { s with heap := h', toks := tk }) :
    wpAny (model prog w) A (pyNext (.ref z) >>= fun r => match r with
      | none => pure (.done .next)
      | some v => (do
        letOwnedTupleGo (.Tuple elts n tp) (.ref z) v
        X v)) R E s := by
  obtain ⟨a, b, hTO⟩ := st.TO
  have lt : ∀ b ∈ [z, TI, TO, i1, i2], s.heap.objs.size ≠ b := fun b hb e => st.live b hb (e ▸ size_none _)
  refine wpAny_bind (zs_item D st.z st.TI hTO st.i1 st.i2 hx hy fun h' tk t1 t2 e1 e2 e3 e4 e5 e6 hk => ?_)
  refine wpAny_bind (wpAny_letOwnedTupleGo_zip e1 fun h₂ hz₂ hs₂ => ?_)
  have nz : ∀ b ∈ [z, TI, TO, i1, i2], s.heap.objs.size ≠ b := lt
  refine h _ h₂ tk t1 t2 (size_none _) (fun hb => lt _ hb rfl) ⟨hz₂, hs₂.extBut _ _ D.TIz e2, ⟨_, _, hs₂.extBut _ _ D.TOz e3⟩, strIt_at e4 fun o e => hs₂.extBut _ _ D.i1z e, strIt_at e5 fun o e => hs₂.extBut _ _ D.i2z e⟩
    (hs₂.extBut _ _ (lt z (by simp)) e6) fun c o hc e => hs₂.extBut _ _ (fun q => hc (by simp [q])) (hk c o (fun q => hc ?_) e)
  simp at q ⊢
  rcases q with q | q | q | q <;> simp [q]
end

section
variable {G : Gd} {k : Nat} {sc : Scope} {ρ : List (Str × D)}

theorem CIn.tell {s₀ s : Shared} {I₀ I : Store} {C Dl T : Addr} {m : Str → Option Value} {acc : List D} {o : Obj} (c : CIn s₀ I₀ C Dl m acc I s) (hT : s.heap.get? T = some o) (hn : s₀.heap.get? T = none) (hI : I T = none) (hC : T ≠ C) (hD : T ≠ Dl) : CIn s₀ I₀ C Dl m acc (I.put T o) s := by
  have hsub : Sub I (I.put T o) := fun b o e1 => by
    unfold Store.put
    split
    · rename_i hb; subst hb; rw [hI] at e1; cases e1
    · exact e1
  obtain ⟨n, ys, e, r⟩ := c.list
  refine ⟨⟨c.g.same, c.g.keep, c.g.sub.trans hsub, fun b o' e1 => ?_, fun b o' e1 => ?_⟩, c.ns, ⟨n, ys, e, r.mono hsub⟩, ?_, ?_, c.newC, c.newD, c.ne⟩
  · unfold Store.put at e1
    split at e1
    · rename_i hb; subst hb; cases e1; exact hT
    · exact c.g.sub' _ _ e1
  · unfold Store.put at e1
    split at e1
    · rename_i hb; subst hb; exact .inr hn
    · exact c.g.new _ _ e1
  · unfold Store.put; rw [if_neg (Ne.symm hC)]; exact c.outC
  · unfold Store.put; rw [if_neg (Ne.symm hD)]; exact c.outD
theorem put_sub {I : Store} {T : Addr} {o : Obj} (hI : I T = none) : Sub I (I.put T o) := fun b o e1 => by
  unfold Store.put
  split
  · rename_i hb; subst hb; rw [hI] at e1; cases e1
  · exact e1
theorem Tr.tell {X : List Addr} {I₁ I : Store} {s₁ s : Shared} {T : Addr} {o : Obj} (t : Tr X I₁ s₁ X I s) (hn : s₁.heap.get? T = none) (hI : I T = none) : Tr X I₁ s₁ X (I.put T o) s :=
  ⟨t.same, t.keep, t.alive, t.sub.trans (put_sub hI), fun b o' e => by
    unfold Store.put at e
    split at e
    · rename_i hb; subst hb; exact .inr (.inr hn)
    · exact t.new b o' e, t.newT⟩

structure LoopZ (cenv : Env) (ρ : List (Str × D)) (s₀ : Shared) (I₀ : Store) (C Dl : Addr) (z TI TO i1 i2 : Addr) (x y : Str) (t u : Tok) (i : Nat) (m : Str → Option Value) (acc : List D) (I : Store) (s : Shared) : Prop where
  c : CIn s₀ I₀ C Dl m acc I s
  n : NB cenv s₀ I m ρ
  st : ZSt z TI TO i1 i2 x y t u i s.heap
  hw : ∀ b ∈ [z, TI, TO, i1, i2], I b = none ∧ s₀.heap.get? b = none ∧ b ≠ C ∧ b ≠ Dl

noncomputable def zipD (x y : Str) : List D := List.zipWith (fun c d => D.tup [.str ⟨#[c]⟩, .str ⟨#[d]⟩]) x.cps.toList y.cps.toList
theorem none_new {I I' : Store} {s s' : Shared} {T : List Addr} (t : Tr T I s T I' s') {b : Addr} (h1 : I b = none) (h2 : b ∉ T) (h3 : s.heap.get? b ≠ none) : I' b = none := by
  cases e : I' b with
  | none => rfl
  | some o =>
    rcases t.new b o e with q | q | q
    · rw [h1] at q; cases q
    · exact absurd q h2
    · exact absurd q h3

theorem zloop_last {elt iter : Expr} {elts : List Expr} {en : Nat} {tp : Pos} {scope : Scope} {pos : Pos}
    {A : Around} {cenv : Env} {s₀ : Shared} {I₀ II : Store} {sI : Shared} {C Dl z TI TO i1 i2 : Addr} {x y : Str} {t u : Tok} {m : Str → Option Value} {acc : List D} {I : Store} {s : Shared} {K : List D → Prop} {R : Result → Shared → Prop}
    (oa : OkA k A) (eo : EnvOk sc cenv) (hC : cenv.locals = C) (hB : G.B s₀.heap) (Dz : ZAp z TI TO i1 i2) (hxy : x.cps.size ≤ y.cps.size) (L : LoopZ cenv ρ s₀ I₀ C Dl z TI TO i1 i2 x y t u 0 m acc I s) (hwI : ∀ b ∈ [z, TI, TO, i1, i2], sI.heap.get? b = none) (t0 : Tr [C, Dl] II sI [C, Dl] I s)
    (F : CompL G k sc ρ (.Tuple elts en tp) [] elt K (zipD x y) acc)
    (hR : ∀ m' acc' I' s', CIn s₀ I₀ C Dl m' acc' I' s' → NB cenv s₀ I' m' ρ → Tr [C, Dl] II sI [C, Dl] I' s' → K acc' → R (.ok .next) s') :
    codeAny G.M A (.compLoop (.ListComp elt [⟨.Tuple elts en tp, iter, [], 0⟩] scope pos) 0 (.ref z) (.ref Dl) cenv) R s := by
  have hlen : (zipD x y).length = x.cps.size := by unfold zipD; rw [List.length_zipWith]; simp; omega
  refine codeAny_loop rfl (fun n s' => ∃ i m acc I', n = (zipD x y).length - i ∧ i ≤ (zipD x y).length ∧ LoopZ cenv ρ s₀ I₀ C Dl z TI TO i1 i2 x y t u i m acc I' s' ∧ Tr [C, Dl] II sI [C, Dl] I' s' ∧ CompL G k sc ρ (.Tuple elts en tp) [] elt K ((zipD x y).drop i) acc)
    (fun n s' hI => ?_) (zipD x y).length ⟨0, m, acc, I, rfl, Nat.zero_le _, L, t0, F⟩
  obtain ⟨i, m, acc, I', rfl, hi, L, t1, F⟩ := hI
  show wpAny _ A ((compTurn (.ListComp elt [⟨.Tuple elts en tp, iter, [], 0⟩] scope pos) 0 (.ref z) (.ref Dl) cenv).onRaise (fun x => do noteFrame x cenv; theTreesLotGoes x)) _ _ s'
  refine wpAny_noted (wpAny_gen fun RR hRR => ?_)
  rw [turn_last0]
  unfold compLast
  refine wpAny_bind (wpAny_standAt ?_)
  have hX : ∀ b ∈ [z, TI, TO, i1, i2], b ∉ [C, Dl] := fun b hb q => by
    obtain ⟨_, _, h1, h2⟩ := L.hw b hb
    simp at q
    exact q.elim h1 h2
  by_cases hlt : i < (zipD x y).length
  · have hix : i < x.cps.size := by omega
    have hiy : i < y.cps.size := by omega
    have hitem : (zipD x y)[i] = D.tup [.str ⟨#[x.cps[i]]⟩, .str ⟨#[y.cps[i]]⟩] := by simp [zipD]
    rw [List.drop_eq_getElem_cons hlt] at F
    obtain ⟨bs, ht, ho, hT⟩ : stepL G k sc ρ (.Tuple elts en tp) [] elt (zipD x y)[i] (CompL G k sc ρ (.Tuple elts en tp) [] elt K ((zipD x y).drop (i + 1))) acc := F
    rw [hitem] at ht
    have hT : PE G k sc (bs ++ ρ) elt fun e => acc.length < 100000 ∧ CompL G k sc ρ (.Tuple elts en tp) [] elt K ((zipD x y).drop (i + 1)) (acc ++ [e]) := hT
    refine zs_turn Dz L.st (Array.getElem?_eq_getElem hix) (Array.getElem?_eq_getElem hiy) fun T h' tk u1 u2 hTn hTw st' hp hk => ?_
    have hTs : s₀.heap.get? T = none := none_of_keep L.c.g.keep hTn
    have hTI : I' T = none := by
      cases e : I' T with
      | none => rfl
      | some o => have := L.c.g.sub' _ _ e; rw [hTn] at this; cases this
    have hTC : T ≠ C := fun q => by subst q; exact Ns.live L.c.ns hTn
    have hTD : T ≠ Dl := fun q => by subst q; exact L.c.liveD hTn
    have c1 := (L.c.wr (t := tk) hk L.hw).tell hp hTs hTI hTC hTD
    have n1 := L.n.mono (put_sub (o := { cls := .type "tuple", data := .seq #[.str ⟨#[x.cps[i]]⟩ u1, .str ⟨#[y.cps[i]]⟩ u2] }) hTI)
    have t2 : Tr [C, Dl] II sI [C, Dl] (I'.put T _) { s' with heap := h', toks := tk } := (t1.wrs hk hwI).tell (o := { cls := .type "tuple", data := .seq #[.str ⟨#[x.cps[i]]⟩ u1, .str ⟨#[y.cps[i]]⟩ u2] }) (t1.alive _ hTn) hTI
    have rr : Rep (I'.put T { cls := .type "tuple", data := .seq #[.str ⟨#[x.cps[i]]⟩ u1, .str ⟨#[y.cps[i]]⟩ u2] }) (.tup [.str ⟨#[x.cps[i]]⟩, .str ⟨#[y.cps[i]]⟩]) (.ref T) :=
      rep_tup.mpr ⟨T, 0, _, rfl, Store.put_self _ _ _, repL_cons.mpr ⟨_, _, rfl, rep_str.mpr ⟨_, rfl⟩, repL_cons.mpr ⟨_, _, rfl, rep_str.mpr ⟨_, rfl⟩, repL_nil.mpr rfl⟩⟩⟩
    have nw1 : ∀ b ∈ [z, TI, TO, i1, i2], (I'.put T { cls := .type "tuple", data := .seq #[.str ⟨#[x.cps[i]]⟩ u1, .str ⟨#[y.cps[i]]⟩ u2] }) b = none := fun b hb => by
      unfold Store.put
      rw [if_neg (fun q : b = T => hTw (q ▸ hb))]
      exact (L.hw b hb).1
    refine wpAny_bind (c1.bindT hC eo oa.handled n1 ht ho rr fun m' s1 c2 n2 t3 => ?_)
    refine wpAny_bind (wpAny_tests_nil ?_)
    simp only [if_true]
    have st1 : ZSt z TI TO i1 i2 x y t u (i + 1) s1.heap := st'.at_ fun b hb o e => t3.keep b o (hX b hb) e
    refine wpAny_bind (wpAny_bind (wpAny_mono (hT A cenv _ s1 oa eo (n2.nin c2 hC hB)) (fun v s3 ⟨J, d, g, r, hlen, q2⟩ => ?_) fun _ _ x => x.elim))
    have c3 := c2.grow g
    obtain ⟨n, ys, e, ry⟩ := c3.list
    have hys : ys.size ≤ sizeLine := by
      have := ry.length
      have h2 : sizeLine = 2 ^ 24 := rfl
      simp at this
      omega
    refine wpAny_bind (wpAny_list_append_plain (hsz := hys) ⟨n, e⟩ fun h4 hl4 hs4 => ?_)
    obtain ⟨n4, e4⟩ := hl4
    have c4 := c3.push (t := s3.toks) hs4 e4 (acc' := acc ++ [d]) (by rw [Array.toList_push]; exact ry.append (repL_cons.mpr ⟨v, [], rfl, r, repL_nil.mpr rfl⟩))
    have t4 := Tr.of_grow (T := [C, Dl]) g
    have t5 : Tr [C, Dl] J s3 [C, Dl] J { s3 with heap := h4 } := Tr.at_ (t := s3.toks) (fun b o hb e => (hs4.2 b fun q => hb (by simp [q])).trans e) fun b hb => by
      simp at hb
      rcases hb with rfl | rfl
      · exact Ns.live c4.ns
      · rw [e4]; exact Option.some_ne_none _
    have t35 := t3.trans (t4.trans t5)
    refine wpAny_pure (wpAny_pure (hRR _ _ ?_))
    refine ⟨rfl, (zipD x y).length - (i + 1), by omega, i + 1, m', acc ++ [d], J, rfl, hlt, ⟨c4, n2.rest.mono g.sub, st'.at_ fun b hb o e => t35.keep b o (hX b hb) e, fun b hb => ⟨?_, (L.hw b hb).2⟩⟩,
      t2.trans t35, q2⟩
    exact none_new t35 (nw1 b hb) (hX b hb) (st'.live b hb)
  · have hin : i = (zipD x y).length := by omega
    subst hin
    obtain ⟨a, b, hTO⟩ := L.st.TO
    refine wpAny_bind (zs_end oa.handled Dz L.st.z L.st.TI hTO L.st.i1 (Array.getElem?_eq_none (by omega)) fun h' hk => wpAny_pure (hRR _ _ ?_))
    have hk' : ∀ c o, c ∉ [z, TI, TO, i1, i2] → s'.heap.get? c = some o → h'.get? c = some o := fun c o hc e => hk c o (fun q => hc (by
      simp at q ⊢
      rcases q with q | q | q | q <;> simp [q])) e
    rw [List.drop_length] at F
    exact hR m acc I' _ (L.c.wr (t := s'.toks) hk' L.hw) L.n (t1.wrs hk' hwI) F

theorem comp_startG {elt : Expr} {g : Comprehension} {gs : List Comprehension} {scope : Scope} {pos pos' : Pos} {use : Option (Value → Sem Unit)} {QQ : Value → Shared → Prop} {A : Around} {env : Env} {I : Store} {s : Shared} {Y : Addr → Store → List Addr → (Heap → Prop) → Prop} (ok : compOk scope sc ρ = true) (ha : g.is_async = 0)
    (oa : OkA k A) (eo : EnvOk sc env) (N : NIn G env ρ I s)
    (h : wpAny G.M A (eval g.iter env) (fun x s₁ => wpAny G.M A (pyIter x) (fun it s₂ => ∃ I₂ a wr St, it = .ref a ∧ Grow s I s₂ I₂ ∧ (∀ b ∈ wr, s.heap.get? b = none ∧ I₂ b = none) ∧ (∀ b ∈ wr, s₂.heap.get? b ≠ none) ∧ (∀ h', (∀ b o, s₂.heap.get? b = some o → h'.get? b = some o) → St h') ∧
      (∀ (s : Shared) (Q : Value → Shared → Prop) (E : Value → Shared → Prop), St s.heap → Q (.ref a) s → wpAny G.M A (pyIter (.ref a)) Q E s) ∧ Y a I₂ wr St) Bot s₁) Bot s)
    (hs : ∀ x, foldedSetIterable g.iter env x = pure x)
    (loop : ∀ cenv C Dl a I₂ wr St m s', EnvOk (relS scope sc) cenv → cenv.locals = C → CIn s I C Dl m [] I₂ s' → NB cenv s I₂ m (capt scope sc ρ) → St s'.heap → (∀ b ∈ wr, I₂ b = none ∧ s.heap.get? b = none ∧ b ≠ C ∧ b ≠ Dl) → Tr [C, Dl] I s [C, Dl] I₂ s' → Y a I₂ wr St →
      codeAny G.M A (.compLoop (.ListComp elt (g :: gs) scope pos) 0 (.ref a) (.ref Dl) cenv) (compPost G.M A Bot use QQ (.ref Dl) C) s') :
    wpAny G.M A (comprehension (.ListComp elt (g :: gs) scope pos) scope env pos' (newList []) false (eval g.iter env) use) QQ Bot s := by
  unfold compOk at ok
  simp only [Bool.and_eq_true, decide_eq_true_eq, List.all_eq_true, Bool.or_eq_true] at ok
  obtain ⟨⟨hkind, hsk⟩, hn⟩ := ok
  have hval : ∀ x d, (x, d) ∈ ρ → sc.names.lookup x = some .cell → (x == ("__debug__" : Str)) = false ∧ ∃ c v, env.cells.lookup x = some c ∧ s.heap.IsCell c (some v) ∧ Rep I d v := fun x d hx hc => by
    obtain ⟨hd, v, V, r⟩ := N.val x d hx
    refine ⟨hd, ?_⟩
    rcases V with ⟨k1, _⟩ | ⟨_, c, k3, k4⟩
    · rw [Env.kindOf, eo.scope, hc] at k1; cases k1
    · exact ⟨c, v, k3, k4, r⟩
  obtain ⟨cl, hclos, hcl⟩ := closure_ok (env := env) (scope := scope) fun x hx hf => by
    rcases (hn x hx).2 with q | ⟨q1, q2⟩
    · exact absurd hf q
    · simp only [List.contains_eq_mem, decide_eq_true_eq, List.mem_map] at q2
      obtain ⟨⟨y, d⟩, hy, rfl⟩ := q2
      obtain ⟨_, c, v, hc, _⟩ := hval _ d hy q1
      exact ⟨c, hc⟩
  refine wpAny_comprehension_free (use := use) rfl hs hclos hkind (fun x hx hl => ?_) (wpAny_mono h (fun xv s₁ h₁ => wpAny_mono h₁ (fun it s₂ h₂ => ?_) fun _ _ e => e) fun _ _ e => e)
  · rcases (hn x hx).1.2 with q | q
    · exact absurd hl q
    · exact q
  obtain ⟨I₂, a, wr, St, rfl, gg, Onew, Olive, Ost, Oself, z⟩ := h₂
  refine wpAny_newObj_type (wpAny_newFunctionEnv (fun x hx => (hn x hx).1.1) (by intro y hy; simp at hy) (fun h₁ hns₁ hsb₁ => ?_) hkind)
  dsimp only at hns₁ hsb₁ ⊢
  generalize hH2 : s₂.heap.push { cls := .type "list", dict := none, data := .seq ([] : List Value).toArray } = H2 at hns₁ hsb₁ ⊢
  have hC : H2.objs.size = s₂.heap.objs.size + 1 := by rw [← hH2, Heap.size_push]
  have hDC : H2.objs.size ≠ s₂.heap.objs.size := by rw [hC]; exact Nat.succ_ne_self _
  have fresh : ∀ b, s₂.heap.objs.size ≤ b → s₂.heap.get? b = none := fun b hb => by
    cases e : s₂.heap.get? b with
    | none => rfl
    | some o => exact absurd (Heap.lt_size e) (Nat.not_lt.mpr hb)
  have nC : s₂.heap.get? H2.objs.size = none := fresh _ (by rw [hC]; exact Nat.le_succ _)
  have nD : s₂.heap.get? s₂.heap.objs.size = none := fresh _ (Nat.le_refl _)
  have old : ∀ b o, s₂.heap.get? b = some o → h₁.get? b = some o := fun b o e => hsb₁.extBut b o (fun q => by rw [q, nC] at e; cases e) (Heap.get?_push_of_some _ (hH2 ▸ Heap.get?_push_of_some _ e))
  have hacc : h₁.get? s₂.heap.objs.size = some (lobj #[] 0) := hsb₁.extBut _ _ (Ne.symm hDC) (Heap.get?_push_of_some _ (hH2 ▸ Heap.get?_push_size _ rfl))
  have none₂ : ∀ b, s₂.heap.get? b = none → I₂ b = none := fun b e => by
    cases q : I₂ b with
    | none => rfl
    | some o => rw [gg.sub' _ _ q] at e; cases e
  have g3 : Grow s₂ I₂ { s₂ with heap := h₁, toks := s₂.toks + ([] : List (Str × Value)).length } I₂ := Grow.heap gg.sub' old
  have c0 : CIn s I H2.objs.size s₂.heap.objs.size _ [] I₂ { s₂ with heap := h₁, toks := s₂.toks + ([] : List (Str × Value)).length } :=
    ⟨gg.trans g3, hns₁, ⟨0, #[], hacc, repL_nil.mpr rfl⟩, none₂ _ nC, none₂ _ nD, none_of_keep gg.keep nC, none_of_keep gg.keep nD, hDC⟩
  have st1 : St h₁ := Ost _ old
  have key := fun cenv (he : EnvOk (relS scope sc) cenv) (hl : cenv.locals = H2.objs.size) (hcells : cenv.cells = cl) => loop cenv H2.objs.size s₂.heap.objs.size a I₂ wr St _ _ he hl 
    c0 (fun x d hx => by
      obtain ⟨hx, hf⟩ := List.mem_filter.mp hx
      simp only [Bool.and_eq_true, decide_eq_true_eq] at hf
      obtain ⟨hd, c, v, hc, hcell, r⟩ := hval x d hx hf.2
      refine ⟨hd, v, r.mono gg.sub, .inr ⟨?_, c, ?_, hcell⟩⟩
      · rw [Env.kindOf, he.scope]; exact lookup_relS hf.1 hf.2 hsk
      · rw [hcells]; exact hcl x c (mem_of_lookup hf.1) hc) st1 (fun b hb => by
      obtain ⟨n1, n2⟩ := Onew b hb
      have := Olive b hb
      refine ⟨n2, n1, fun q => ?_, fun q => ?_⟩
      · rw [q] at this; exact this nC
      · rw [q] at this; exact this nD) ((Tr.of_grow gg).trans (Tr.of_grow g3)) z
  have he : EnvOk (relS scope sc) (compEnvC scope cl H2.objs.size env) := ⟨relabel_eq eo.scope, hkind, eo.globals, eo.builtins⟩
  have hloop := key (compEnvC scope cl H2.objs.size env) he rfl rfl
  exact start_at (g := g) rfl ha hloop fun E => Oself _ _ _ st1 hloop

variable {Q : D → Prop}
theorem pe_compZ {elt : Expr} {elts args : List Expr} {en : Nat} {tp fp cp : Pos} {scope : Scope} {pos : Pos} (ok : compOk scope sc ρ = true) (hx : (("zip" : Str), Value.type "zip") ∈ G.gl) (hk : sc.names.lookup ("zip" : Str) = some .globalImplicit)
    (h : PL G k sc ρ args fun ds => ∃ x y : Str, ds = [.str x, .str y] ∧ x.cps.all (· < 128) = true ∧ y.cps.all (· < 128) = true ∧ x.cps.size ≤ y.cps.size ∧ CompL G k (relS scope sc) (capt scope sc ρ) (.Tuple elts en tp) [] elt (fun acc => Q (.list acc)) (zipD x y) [])
    (hs : ∀ x env, foldedSetIterable (.Call (.Name "zip" fp) args [] cp) env x = pure x := by intro _ _; rfl) (hp : ∀ env pos, (backTo pos (starEach args env)).any (·.1) = false := by intro _ _; rfl) :
    PE G k sc ρ (.ListComp elt [⟨.Tuple elts en tp, .Call (.Name "zip" fp) args [] cp, [], 0⟩] scope pos) Q := fun A env I s oa eo N => by
  rw [eval_ListComp]
  have hn : PE G k sc ρ (.Name "zip" fp) fun d => d = .val (.type "zip") := pe_glob hx hk (d := .val (.type "zip")) (fun I => rep_val.mpr rfl) rfl
  refine comp_startG (g := ⟨.Tuple elts en tp, .Call (.Name "zip" fp) args [] cp, [], 0⟩) ok rfl oa eo N
    (Y := fun a I₂ wr St => ∃ z TI TO i1 i2 x y t u, a = z ∧ wr = [z, TI, TO, i1, i2] ∧ ZAp z TI TO i1 i2 ∧ St = ZSt z TI TO i1 i2 x y t u 0 ∧ x.cps.size ≤ y.cps.size ∧ CompL G k (relS scope sc) (capt scope sc ρ) (.Tuple elts en tp) [] elt (fun acc => Q (.list acc)) (zipD x y) []) ?_ (fun x => hs x env) ?_
  · refine Call_ (then_PE hn oa eo N fun v s₁ I₁ d g₁ N₁ r₁ q₁ => ?_)
    subst q₁
    rw [rep_val] at r₁
    subst r₁
    refine PySem.callWith_type (hp env cp) (evalArgs_any (hp env cp) (wpAny_mono (h A env I₁ s₁ cp oa eo N₁) (fun vs s₂ ⟨J, ds, g₂, r₂, q₂⟩ => ?_) fun _ _ x => x))
    obtain ⟨x, y, rfl, ax, ay, hxy, F⟩ := q₂
    obtain ⟨v, u, rfl, r, r'⟩ := repL_two r₂
    obtain ⟨t, rfl⟩ := rep_str.mp r
    obtain ⟨t', rfl⟩ := rep_str.mp r'
    refine call_zip_str ax ay fun h' st hk => ?_
    refine wpAny_pyIter_zip st.z ?_
    have g := (g₁.trans g₂).trans (Grow.heap (t := s₂.toks) g₂.sub' hk)
    have nn : ∀ j, s₂.heap.get? (s₂.heap.objs.size + j) = none := fun j => by
      cases e : s₂.heap.get? (s₂.heap.objs.size + j) with
      | none => rfl
      | some o => exact absurd (Heap.lt_size e) (Nat.not_lt.mpr (Nat.le_add_right _ _))
    have nJ : ∀ b, s₂.heap.get? b = none → J b = none := fun b e => by
      cases q : J b with
      | none => rfl
      | some o => have := g₂.sub' _ _ q; rw [e] at this; cases this
    have nw : ∀ b ∈ [s₂.heap.objs.size + 4, s₂.heap.objs.size + 2, s₂.heap.objs.size + 3, s₂.heap.objs.size, s₂.heap.objs.size + 1], s₂.heap.get? b = none := fun b hb => by
      simp at hb
      rcases hb with rfl | rfl | rfl | rfl | rfl
      · exact nn 4
      · exact nn 2
      · exact nn 3
      · exact nn 0
      · exact nn 1
    refine ⟨J, _, _, _, rfl, g, fun b hb => ⟨none_of_keep (g₁.trans g₂).keep (nw b hb), nJ b (nw b hb)⟩, st.live, fun h'' hk'' => st.at_ fun b _ o e => hk'' b o e, fun s Q E hst hQ => wpAny_pyIter_zip hst.z hQ, _, _, _, _, _, x, y, t, t', rfl, rfl, ?_, rfl, hxy, F⟩
    constructor <;> first | omega | (intro q; simp [Addr] at q) | skip
  · intro cenv C Dl a I₂ wr St m s' he hl c n st hw t0 Y
    obtain ⟨z, TI, TO, i1, i2, x, y, t, u, rfl, rfl, Dz, rfl, hxy, F⟩ := Y
    refine zloop_last oa he hl N.base Dz hxy ⟨c, n, st, hw⟩ (fun b hb => (hw b hb).2.1) t0 F fun m' acc' I' s' c n t q => ?_
    exact ⟨m', c.ns, fun h' hsb => let ⟨J, g, r, _⟩ := c.fin (t := s'.toks) hsb; Res.one g r q⟩
end

-- C37
set_option maxRecDepth 100000
/-! ### next of a list's iterator -/
section
variable {prog : Program} {w : World} {A : Around} {E : Value → Shared → Prop} {s : Shared}
theorem nx_entry : entryFor table "next" = some Builtin.«next» := entryFor_of_fast (by kernel_rfl)
theorem nx_args (a : Value) : argsOk "next" ⟨[a], []⟩ := by unfold argsOk; kernel_rfl
theorem special_item {it l : Addr} {i : Nat} {items : Array Value} {x : Value} {Q : Option Value → Shared → Prop} (hit : s.heap.IsListIter it l i)
    (hl : s.heap.IsList l items) (hx : items[i]? = some x)
    (hQ : ∀ h', h'.IsListIter it l (i + 1) → Heap.SameBut it s.heap h' → Q (some x) { s with heap := h' }) :
    wpAny (model prog w) A (callSpecial? (.ref it) (Str.ofString "__next__")) Q E s := by
  obtain ⟨o, ho, hc, hd⟩ := id hit
  obtain ⟨ol, hol, _, nl, hdl⟩ := hl
  refine (wpAny_callSpecial?_slot (name := Str.ofString "__next__") hit.typeIs slot_listiter_next
    (wpAny_call_entry slot_listiter_next hit.typeIs entry_listiter_next ?_ (args_listiter_next _)))
  show wpAny _ _ (field (.ref it) 0 >>= _) _ _ s
  refine wpAny_bind (wpAny_field ho hd (x := .ref l) rfl ?_)
  show wpAny _ _ (if (Value.ref l == Value.none) = true then _ else _) _ _ s
  rw [if_neg (show ¬ ((Value.ref l == Value.none) = true) from Bool.false_ne_true)]
  show wpAny _ _ (field (.ref it) 1 >>= _) _ _ s
  refine wpAny_bind (wpAny_field ho hd (x := .int i 0) rfl ?_)
  show wpAny _ _ (seqItems? (.ref l) >>= _) _ _ s
  refine wpAny_bind (wpAny_seqItems hol hdl ?_)
  simp only [Int.toNat_natCast, hx]
  refine wpAny_bind (wpAny_setField ho hd (by simp) (wpAny_pure ⟨x, rfl, hQ _ ?_ (Heap.SameBut.update ..)⟩))
  exact ⟨_, Heap.get?_update_self _ ho (Obj.isFreed_of_fields (Obj.data_mapFields hd _)), (Obj.cls_mapFields ..).trans hc, by
    rw [Obj.data_mapFields hd]; simp [rawInt]⟩

theorem special_end {it l : Addr} {i : Nat} {items : Array Value} {Q : Option Value → Shared → Prop} (hh : A.handled = none)
    (hit : s.heap.IsListIter it l i) (hl : s.heap.IsList l items) (hx : items[i]? = none)
    (hE : ∀ h' e oe vs a0, Heap.ExtBut it s.heap h' → s.heap.get? e = none → h'.get? e = some oe → oe.cls = .type "StopIteration" → oe.data = .fields vs → vs[1]? = some .none → vs[0]? = some a0 → E (.ref e) { s with heap := h' }) :
    wpAny (model prog w) A (callSpecial? (.ref it) (Str.ofString "__next__")) Q E s := by
  obtain ⟨o, ho, hc, hd⟩ := id hit
  obtain ⟨ol, hol, _, nl, hdl⟩ := hl
  refine (wpAny_callSpecial?_slot (name := Str.ofString "__next__") hit.typeIs slot_listiter_next
    (wpAny_call_entry slot_listiter_next hit.typeIs entry_listiter_next ?_ (args_listiter_next _)))
  show wpAny _ _ (field (.ref it) 0 >>= _) _ _ s
  refine wpAny_bind (wpAny_field ho hd (x := .ref l) rfl ?_)
  show wpAny _ _ (if (Value.ref l == Value.none) = true then _ else _) _ _ s
  rw [if_neg (show ¬ ((Value.ref l == Value.none) = true) from Bool.false_ne_true)]
  show wpAny _ _ (field (.ref it) 1 >>= _) _ _ s
  refine wpAny_bind (wpAny_field ho hd (x := .int i 0) rfl ?_)
  show wpAny _ _ (seqItems? (.ref l) >>= _) _ _ s
  refine wpAny_bind (wpAny_seqItems hol hdl ?_)
  simp only [Int.toNat_natCast, hx]
  refine wpAny_bind (wpAny_rule (wpAny_bind (wpAny_setField ho hd (by simp) ?_)))
  show wpAny _ _ (newExc (.type "StopIteration") [] >>= _) _ _ _
  refine wpAny_bind ?_
  simp only [newExc, newTuple]
  refine wpAny_bind (wpAny_newObj_type ?_ (by size_fits))
  refine wpAny_bind (m := firstArgMember _ _) (wpAny_of_eq (a := Value.none) (by first | rfl | (simp only [firstArgMember]; rfl)) ?_)
  refine wpAny_newObj_type ?_ (by size_fits)
  simp only [raiseNew]
  refine wpAny_bind (wpAny_handled ?_)
  first | rw [show A.in1.handled = none from hh] | rw [hh]
  refine wpAny_bind (wpAny_pure (wpAny_throw ?_))
  refine hE _ _ _ _ _ (((Heap.SameBut.update ..).extBut.push _).push _) ?_ (Heap.get?_push_size _ rfl) rfl rfl rfl rfl
  have hsz : (s.heap.update it (Obj.mapFields (·.setIfInBounds 0 Value.none))).objs.size = s.heap.objs.size := (Heap.SameBut.update (h := s.heap) (a := it) ..).1
  cases q : s.heap.get? _ with
  | none => rfl
  | some o =>
    refine absurd (Heap.lt_size q) ?_
    rw [Heap.size_push, hsz]
    exact Nat.not_lt.mpr (Nat.le_succ _)
theorem nx_call {it l : Addr} {i : Nat} {Q : Value → Shared → Prop} (hit : s.heap.IsListIter it l i)
    (h : wpAny (model prog w) A.in1 (callSpecial? (.ref it) (Str.ofString "__next__")) (fun r s' => ∃ v, r = some v ∧ Q v s') E s) :
    wpAny (model prog w) A (call (.builtin "next") [.ref it]) Q E s := by
  refine call_function_entry (by decide +kernel) (by decide +kernel) nx_entry (nx_args _) ?_
  unfold Builtin.«next»
  refine wpAny_bind (m := someArgs "next" 1 2 _) (wpAny_of_eq (a := [Value.ref it]) (by first | rfl | kernel_rfl!) ?_)
  dsimp only
  refine wpAny_bind (wpAny_specialOf (name := Str.ofString "__next__") hit.typeIs slot_listiter_next.lookup ?_)
  refine wpAny_ite_split (fun hab => absurd hab (by decide)) (fun _ => ?_)
  refine wpAny_bind (wpAny_mono h (fun r s' ⟨v, e, q⟩ => ?_) fun _ _ x => x)
  subst e
  exact wpAny_pure ⟨_, rfl, q⟩
end

theorem none_new' {I I' : Store} {s s' : Shared} {T T' : List Addr} (t : Tr T I s T' I' s') {b : Addr} (h1 : I b = none) (h2 : b ∉ T) (h3 : s.heap.get? b ≠ none) : I' b = none := by
  cases e : I' b with
  | none => rfl
  | some o =>
    rcases t.new b o e with q | q | q
    · rw [h1] at q; cases q
    · exact absurd q h2
    · exact absurd q h3
/-- a frame that draws from a list's iterator -/
structure PV (it l : Addr) (octs : List Int) (s₀ : Shared) (i : Nat) (T : List Addr) (I : Store) (s : Shared) : Prop where
  same : ∃ h tk, s = { s₀ with heap := h, toks := tk }
  old : ∀ b o, b ≠ it → s₀.heap.get? b = some o → s.heap.get? b = some o ∧ b ∉ T
  itT : it ∉ T
  itI : I it = none
  at_ : s.heap.IsListIter it l i
  li : ∃ n vs, I l = some (lobj vs n) ∧ RepL I (octs.map D.int) vs.toList
  was : s₀.heap.get? it ≠ none
section
variable {G : Gd} {k : Nat} {sc : Scope} {σ : Sto} {it l : Addr} {octs : List Int} {s₀ s s' : Shared} {i : Nat} {T T' : List Addr} {I I' : Store}
theorem PV.tr (p : PV it l octs s₀ i T I s) (t : Tr T I s T' I' s') : PV it l octs s₀ i T' I' s' := by
  have nT : ∀ b o, s.heap.get? b = some o → b ∉ T → b ∉ T' := fun b o e h q => by
    rcases t.newT b q with q | q
    · exact h q
    · rw [e] at q; cases q
  obtain ⟨o, ho, hr⟩ := id p.at_
  refine ⟨?_, fun b o hb e => ?_, nT _ _ ho p.itT, ?_, ⟨o, t.keep _ _ p.itT ho, hr⟩, ?_, p.was⟩
  · obtain ⟨h, tk, rfl⟩ := p.same
    obtain ⟨h', tk', rfl⟩ := t.same
    exact ⟨h', tk', rfl⟩
  · obtain ⟨e1, e2⟩ := p.old b o hb e
    exact ⟨t.keep _ _ e2 e1, nT _ _ e1 e2⟩
  · exact none_new' t p.itI p.itT (by rw [ho]; exact Option.some_ne_none _)
  · obtain ⟨n, vs, e, r⟩ := p.li
    exact ⟨n, vs, t.sub _ _ e, r.mono t.sub⟩
theorem PV.step (p : PV it l octs s₀ i T I s) {h' : Heap} (hs : Heap.SameBut it s.heap h') (hi : h'.IsListIter it l (i + 1)) : PV it l octs s₀ (i + 1) T I { s with heap := h' } := by
  refine ⟨?_, fun b o hb e => ?_, p.itT, p.itI, hi, p.li, p.was⟩
  · obtain ⟨h, tk, rfl⟩ := p.same
    exact ⟨h', tk, rfl⟩
  · obtain ⟨e1, e2⟩ := p.old b o hb e
    exact ⟨(hs.2 b hb).trans e1, e2⟩

/-- what a raise leaves -/
noncomputable def XStop (it : Addr) (env : Env) (s₀ : Shared) (E : Value → Shared → Prop) : Prop :=
  ∀ s' e oe vs a0, (∃ h tk, s' = { s₀ with heap := h, toks := tk }) → (∀ b o, b ≠ it → s₀.heap.get? b = some o → s'.heap.get? b = some o) → (∃ o, s'.heap.get? env.locals = some o ∧ ∀ vs, o.data ≠ .fields vs) → s₀.heap.get? e = none → s'.heap.get? e = some oe → oe.cls = .type "StopIteration" → oe.data = .fields vs → vs[1]? = some .none → vs[0]? = some a0 → E (.ref e) s'
noncomputable def XPost (G : Gd) (it l : Addr) (octs : List Int) (h₀ : Heap) (env : Env) (s₀ : Shared) (Q : Out → Nat → Prop) : Flow → Shared → Prop
  | .next, s' => ∃ T' I' σ' j, SIn G h₀ env T' I' σ' s' ∧ PV it l octs s₀ j T' I' s' ∧ Q (.next σ') j
  | .ret v, s' => ∃ I' d j, Rep I' d v ∧ (∃ h tk, s' = { s₀ with heap := h, toks := tk }) ∧ (∀ b o, b ≠ it → s₀.heap.get? b = some o → s'.heap.get? b = some o) ∧ s'.heap.IsListIter it l j ∧ Q (.ret d) j
  | _, _ => False
noncomputable def XE (G : Gd) (k : Nat) (sc : Scope) (it l : Addr) (octs : List Int) (i : Nat) (σ : Sto) (b : List Stmt) (Q : Out → Nat → Prop) (R : Prop) : Prop :=
  ∀ (h₀ : Heap) (A : Around) (env : Env) (T : List Addr) (I : Store) (s s₀ : Shared) (E : Value → Shared → Prop), OkA k A → EnvOk sc env → PassesOwn G.M A env E → h₀.get? it = none → (∀ b o, h₀.get? b = some o → s₀.heap.get? b = some o) → SIn G h₀ env T I σ s → PV it l octs s₀ i T I s → (R → XStop it env s₀ E) →
    wpAny G.M A (execs b env) (XPost G it l octs h₀ env s₀ Q) E s
@[reducible] def XSeqK (G : Gd) (k : Nat) (sc : Scope) (it l : Addr) (octs : List Int) (i : Nat) (rest : List Stmt) (Q : Out → Nat → Prop) (R : Prop) : Out → Prop := fun o => match o with
  | .next σ' => XE G k sc it l octs i σ' rest Q R
  | .ret d => Scal d ∧ Q (.ret d) i
  | _ => False

variable {Q : Out → Nat → Prop} {R : Prop}
theorem xe_nil (h : Q (.next σ) i) : XE G k sc it l octs i σ [] Q R := fun h₀ A env T I s s₀ E oa eo pE hit hk S P hE => wpAny_execs_nil ⟨_, _, σ, i, S, P, h⟩
theorem xe_cons {st : Stmt} {rest : List Stmt} (h : S1 G k sc σ st (XSeqK G k sc it l octs i rest Q R)) : XE G k sc it l octs i σ (st :: rest) Q R := fun h₀ A env T I s s₀ E oa eo pE hit hk S P hE =>
  wpAny_execs_cons (wpAny_mono (h h₀ A env T I s oa eo S) (fun f s' p => by
    cases f with
    | next =>
      obtain ⟨T', I', σ', a, b, c⟩ := p
      exact c h₀ A env T' I' s' s₀ E oa eo pE hit hk b (P.tr a) hE
    | brk => exact p.elim fun _ p => p.elim fun _ p => p.elim fun _ p => p.2.2.elim
    | cont => exact p.elim fun _ p => p.elim fun _ p => p.elim fun _ p => p.2.2.elim
    | ret v =>
      obtain ⟨T', I', d, a, b, c, sd, q⟩ := p
      have P' := P.tr a
      exact ⟨I', d, i, c, P'.same, fun b o hb e => (P'.old b o hb e).1, P'.at_, q⟩) fun _ _ x => x.elim)
theorem xe_next {x : Str} {p' np ip cp pos : Pos} {c0 : Cell} {mk : Cell → Sto} {rest : List Stmt} (u : UpdF σ x c0 mk) (hi : MemI σ ("iterator" : Str) (.val (.ref it))) (hg : (("next" : Str), Value.builtin "next") ∈ G.gl) (hk : sc.names.lookup ("next" : Str) = some .globalImplicit)
    (h1 : ∀ z, octs[i]? = some z → XE G k sc it l octs (i + 1) (mk (.imm (.int z))) rest Q R) (h2 : octs[i]? = none → R) :
    XE G k sc it l octs i σ (.Assign [.Name x p'] (.Call (.Name "next" np) [.Name "iterator" ip] [] cp) pos :: rest) Q R := fun h₀ A env T I s s₀ E oa eo pE hit hk₀ S P hE => by
  obtain ⟨j, hj, e1⟩ := u.idx
  refine wpAny_execs_cons (wpAny_Assign_Name ?_ rfl)
  have N := S.immN
  have hn : PE G k sc (immR σ) (.Name "next" np) fun d => d = .val (.builtin "next") := pe_glob hg hk (d := .val (.builtin "next")) (fun I => rep_val.mpr rfl) rfl
  have hargs : PL G k sc (immR σ) [.Name "iterator" ip] fun ds => ds = [.val (.ref it)] := pl_cons (pe_name (mem_I hi) (pl_nil rfl))
  refine Call_ (wpAny_mono (hn A env I s oa eo N) (fun v s₁ ⟨I₁, d, g₁, r₁, q₁⟩ => ?_) fun _ _ x => x.elim)
  subst q₁
  rw [rep_val] at r₁
  subst r₁
  have S₁ := S.grow g₁
  have P₁ := P.tr (Tr.of_grow g₁)
  refine callWith_builtin rfl (evalArgs_any rfl (wpAny_mono (hargs A env I₁ s₁ cp oa eo S₁.immN) (fun vs s₂ ⟨I₂, ds, g₂, r₂, q₂⟩ => ?_) fun _ _ x => x.elim))
  subst q₂
  obtain ⟨v, rfl, r⟩ := repL_one r₂
  rw [rep_val] at r
  subst r
  have S₂ := S₁.grow g₂
  have P₂ := P₁.tr (Tr.of_grow g₂)
  obtain ⟨n, us, hI, rl⟩ := P₂.li
  have ho := S₂.sub _ _ hI
  have hl : s₂.heap.IsList l us := ⟨_, ho, rfl, n, rfl⟩
  refine nx_call P₂.at_ ?_
  cases hz : octs[i]? with
  | some z =>
    obtain ⟨v, hv, rv⟩ := rl.get (i := i) (d := .int z) (by rw [List.getElem?_map, hz]; rfl)
    refine special_item P₂.at_ hl (x := v) (by simpa using hv) fun h' hit' hs' => ⟨v, rfl, ?_⟩
    have P₃ := P₂.step hs' hit'
    have S₃ : SIn G h₀ env T I₂ σ { s₂ with heap := h' } := S₂.wr (wr := [it]) (t := s₂.toks) (fun b o hb e => (hs'.2 b fun q => hb (by simp [q])).trans e) fun b hb => by
      simp at hb; subst hb
      exact ⟨P₂.itT, P₂.itI, hit⟩
    refine S₃.store hj (c := .imm (.int z)) rv fun s₄ t₄ S₄ => ?_
    rw [e1] at S₄
    exact h1 z hz h₀ A env T I₂ s₄ s₀ E oa eo pE hit hk₀ S₄ (P₃.tr t₄) hE
  | none =>
    have hnone : us[i]? = none := by
      have hlen := rl.length
      simp at hlen
      rw [Array.getElem?_eq_none_iff, hlen]
      exact List.getElem?_eq_none_iff.mp hz
    refine special_end (show A.in1.handled = none from oa.handled) P₂.at_ hl hnone fun h' e oe vs a0 hs' hen he hc hd hv1 hv0 => ?_
    have old : ∀ b o, b ≠ it → s₀.heap.get? b = some o → h'.get? b = some o := fun b o hb q => hs' _ _ hb (P₂.old b o hb q).1
    refine hE (h2 hz) _ e oe vs a0 ?_ old ?_ ?_ he hc hd hv1 hv0
    · obtain ⟨h, tk, rfl⟩ := P₂.same; exact ⟨h', tk, rfl⟩
    · obtain ⟨m, cm, ⟨o, es, ep, ho, hd, _⟩, _⟩ := S₂.names
      exact ⟨o, hs' _ _ (fun q => P₂.itT (q ▸ S₂.loc)) ho, fun vs q => by rw [hd] at q; cases q⟩
    · cases q : s₀.heap.get? e with
      | none => rfl
      | some o =>
        by_cases hb : e = it
        · subst hb
          obtain ⟨o', ho', _⟩ := P₂.at_
          rw [hen] at ho'; cases ho'
        · rw [(P₂.old e o hb q).1] at hen; cases hen
end

-- C38
set_option maxRecDepth 100000
@[reducible] def XWhO (Inv : Nat → Nat → Sto → Prop) (n : Nat) : Out → Nat → Prop := fun o j => match o with | .next σ' => ∃ m, m < n ∧ Inv m j σ' | _ => False
@[reducible] def XWhK (G : Gd) (k : Nat) (sc : Scope) (it l : Addr) (octs : List Int) (i : Nat) (σ : Sto) (a rest : List Stmt) (K Q : Out → Nat → Prop) (R : Prop) : Bool → Prop := fun c => if c then XE G k sc it l octs i σ a K R else XE G k sc it l octs i σ rest Q R
section
variable {G : Gd} {k : Nat} {sc : Scope} {σ : Sto} {it l : Addr} {octs : List Int} {i : Nat} {Q : Out → Nat → Prop} {R : Prop}
theorem xe_while {t : Expr} {a rest : List Stmt} {p : Pos} (Inv : Nat → Nat → Sto → Prop) (n : Nat) (h0 : Inv n i σ)
    (turn : ∀ n i σ, Inv n i σ → TE G k sc (fullR σ) t (XWhK G k sc it l octs i σ a rest (XWhO Inv n) Q R)) :
    XE G k sc it l octs i σ (.While t a [] p :: rest) Q R := fun h₀ A env T I s s₀ E oa eo pE hit hk S P hE => by
  refine wpAny_execs_cons (wpAny_While (codeAny_whileLoop (fun n s' => ∃ T I i σ, SIn G h₀ env T I σ s' ∧ PV it l octs s₀ i T I s' ∧ Inv n i σ) (fun n s' hI => ?_) n ⟨T, I, i, σ, S, P, h0⟩))
  obtain ⟨T₁, I₁, i₁, σ₁, S₁, P₁, hInv⟩ := hI
  refine wpAny_mono (turn n i₁ σ₁ hInv A env _ s' oa eo S₁.fullN) (fun c s₂ ⟨J, g, q⟩ => ?_) fun _ _ x => x.elim
  have g' := g.drop S₁.sub
  have S₂ := S₁.grow g'
  have P₂ := P₁.tr (Tr.of_grow g')
  cases c with
  | true =>
    simp only [if_true] at q ⊢
    refine wpAny_passesOwn pE (wpAny_mono (q h₀ A env T₁ I₁ s₂ s₀ E oa eo pE hit hk S₂ P₂ hE) (fun f s₃ p => ?_) fun _ _ x => x)
    cases f with
    | next => obtain ⟨T', I', σ', j, a, b, m, hm, c⟩ := p; exact ⟨m, hm, T', I', j, σ', a, b, c⟩
    | cont => exact p.elim
    | brk => exact p.elim
    | ret v => obtain ⟨_, _, _, _, _, _, _, p⟩ := p; exact p.elim
  | false =>
    simp only [Bool.false_eq_true, if_false] at q ⊢
    exact wpAny_execs_nil (q h₀ A env T₁ I₁ s₂ s₀ E oa eo pE hit hk S₂ P₂ hE)

theorem fn_enter {a : Addr} {body : List Stmt} {params others : List Str} {ds : List D} (F : FnAt G a sc body params) (hn : namesOk sc params others = true) (hl : ds.length = params.length)
    {A : Around} {s : Shared} {vs : List Value} {I : Store} {h₀ : Heap} {K E : Value → Shared → Prop} (oa : OkA (k + 1) A) (hB : G.B h₀) (hk₀ : ∀ b o, h₀.get? b = some o → s.heap.get? b = some o) (hI : Sub I s.heap.get?) (rl : RepL I ds vs)
    (h : ∀ env s₁ T, OkA k (A.deeper env) → EnvOk sc env → env.frame = some env.locals → SIn G h₀ env T I (sto0 params ds others) s₁ → (∃ h tk, s₁ = { s with heap := h, toks := tk }) → (∀ b o, s.heap.get? b = some o → s₁.heap.get? b = some o) → (∀ b ∈ T, s.heap.get? b = none) →
      wpAny G.M (A.deeper env) (execs body env) (fun f s' => K (match f with | .ret v => v | _ => .none) s')
        (fun e s' => wpAny G.M (A.deeper env) (leaving env e) (fun _ s'' => E e s'') (fun e' s'' => E e' s'') s') s₁) : wpAny G.M A (call (.ref a) vs) K E s := by
  have hB' : G.B s.heap := G.keeps hB hk₀
  obtain ⟨o, fd, ho, hd, hc, hsc, hbd, hgl, hcl, hbu, hbind⟩ := F.at_ _ hB'
  unfold namesOk at hn
  simp only [Bool.and_eq_true, Bool.not_eq_true', decide_eq_true_eq, List.all_eq_true, Bool.or_eq_true] at hn
  obtain ⟨⟨⟨⟨hk, hco⟩, hge⟩, hnd⟩, hnames⟩ := hn
  have hvl : vs.length = params.length := rl.length.trans hl
  have hnd1 : params.Nodup := (List.nodup_append.mp hnd).1
  refine wpAny_call (codeAny_call_function (by have := oa.depth; show A.depth < 1000; omega) ho hd (by rw [hsc]; exact hco) (by rw [hsc]; exact hge) hbd hc ?_)
  rw [hbind vs hvl]
  refine wpAny_pure ?_
  rw [hcl, hsc, hgl, hbu]
  have hkinds : ∀ (n : Nat), ∀ x ∈ params.zip vs, sc.names.lookup x.1 = some .local ∨ (sc.names.lookup x.1 = some .cell ∧ ((cellsFrom n sc.names []).lookup x.1).isSome = true) := fun n x hx => by
    have hx' : x.1 ∈ params := (List.of_mem_zip hx).1
    refine (hnames x.1 (List.mem_append_left _ hx')).2.imp id fun ⟨a, b⟩ => ⟨a, ?_⟩
    rw [cellsFrom_isSome sc.names n 0 [] [] x.1 rfl]; exact b
  refine wpAny_newFunctionEnv_cells hk (hkinds _) fun env he s₁ X => ?_
  have e1 : env.scope = sc := by rw [he]; rfl
  have e2 : env.globals = mainGlobals := by rw [he]; rfl
  have e3 : env.builtins = builtinsNs := by rw [he]; rfl
  have e4 : env.locals = s.heap.objs.size := by rw [he]; rfl
  have e5 : env.cells = cellsFrom (s.heap.objs.size + 1) sc.names [] := by rw [he]; rfl
  have e6 : env.frame = some env.locals := by rw [he]; rfl
  refine ⟨(G.nolim hB').keeps X.toInCall.keep, codeAny_func ?_⟩
  have fresh : ∀ b, s.heap.objs.size ≤ b → s.heap.get? b = none := fun b hb => by
    cases e : s.heap.get? b with
    | none => rfl
    | some o => exact absurd (Heap.lt_size e) (Nat.not_lt.mpr hb)
  have hTfresh : ∀ b ∈ env.locals :: liveCells env.cells, s.heap.get? b = none := fun b hb => by
    rcases List.mem_cons.mp hb with rfl | hb
    · exact fresh _ (Nat.le_of_eq e4.symm)
    · obtain ⟨n, hn⟩ := mem_liveCells hb
      have := X.above n b (mem_of_lookup hn)
      exact fresh _ (by rw [e4] at this; exact Nat.le_of_lt this)
  have hIn : ∀ b, s.heap.get? b = none → I b = none := fun b e => by
    cases q : I b with
    | none => rfl
    | some o => rw [hI b o q] at e; cases e
  have hkd : ∀ x, env.kindOf x = sc.names.lookup x := fun x => by rw [Env.kindOf, e1]
  have S : SIn G h₀ env (env.locals :: liveCells env.cells) I (sto0 params ds others) s₁ := by
    refine ⟨⟨hB, fun b o e => X.toInCall.keep b o (hk₀ b o e), fun b hb => none_of_keep hk₀ (hTfresh b hb)⟩, fun b o e => X.toInCall.keep b o (hI b o e), fun b hb => hIn b (hTfresh b hb), by rw [e1]; exact hk, by rw [sto0_names hl]; exact hnd, fun x hx => ?_, .head _, fun b hb => ?_,
      fun n c e => ?_, fun n n' c e e' => name_of_addr X.apart (mem_of_lookup e) (mem_of_lookup e'), _, _, X.toInCall.ns, X.cell, fun x c hx => ?_, fun x l y l' hx hy => ?_⟩
    · rw [sto0_names hl] at hx
      obtain ⟨h1, h2⟩ := hnames x hx
      refine ⟨by simpa using h1, h2.imp (fun q => (hkd x).trans q) fun ⟨q, w⟩ => ⟨(hkd x).trans q, ?_⟩⟩
      rw [e5]
      rw [cellsFrom_isSome sc.names 0 (s.heap.objs.size + 1) [] [] x rfl] at w
      exact Option.isSome_iff_exists.mp w
    · rcases List.mem_cons.mp hb with rfl | hb
      · obtain ⟨oL, _, _, hL, _⟩ := X.toInCall.ns
        rw [hL]; exact Option.some_ne_none _
      · obtain ⟨n, hn⟩ := mem_liveCells hb
        obtain ⟨o, ho, _⟩ := X.cell n b hn
        rw [ho]; exact Option.some_ne_none _
    · exact ⟨.tail _ (liveCells_mem e), Nat.ne_of_gt (X.above n c (mem_of_lookup e))⟩
    · rcases mem_sto0 hx with ⟨d, rfl, hm⟩ | rfl
      · obtain ⟨v, hv, r⟩ := zip_rep rl hm
        refine ⟨v, ?_, r⟩
        have hnn : ((params.zip vs).map Prod.fst).Nodup := by rw [List.map_fst_zip (by omega)]; exact hnd1
        unfold cur
        split
        · rename_i hq; exact bindL_mem _ _ x v hnn hv hq
        · rename_i hq; exact bindC_mem _ _ x v hnn hv hq
      · trivial
    · rcases mem_sto0 hx with ⟨d, e, _⟩ | e <;> cases e
  exact h env s₁ _ (oa.deeper env) ⟨e1, hk, e2, e3⟩ e6 S X.toInCall.same X.toInCall.keep hTfresh

theorem op_ilshift {a b : Int} {Q : D → Prop} (hn : 0 ≤ b) (hn2 : b ≤ 1000000) (ha : a.natAbs < 2 ^ 64) (h : Q (.int (a * 2 ^ b.toNat))) : Op2 G k (inplaceOp .LShift) (.int a) (.int b) Q := op_int2 h fun A s u v K oa hK => ilshift_int_small hn hn2 ha hK
theorem op_ior {a b : Int} {Q : D → Prop} (h : Q (.int (Builtin.bitOr a b))) : Op2 G k (inplaceOp .BitOr) (.int a) (.int b) Q := op_int2 h fun A s u v K oa hK => ior_int hK
end

/-! ### what _parse_varint reads -/
noncomputable def valP (os : List Nat) (m : Nat) : Nat := (os.take m).foldl (fun v o => v * 64 + o % 64) 0
theorem valP_succ {os : List Nat} {j o : Nat} (h : os[j]? = some o) : valP os (j + 1) = valP os j * 64 + o % 64 := by
  unfold valP
  have hj : j < os.length := (List.getElem?_eq_some_iff.mp h).1
  rw [List.take_succ_eq_append_getElem hj, List.foldl_append]
  have : os[j] = o := by rw [List.getElem?_eq_getElem hj] at h; exact Option.some.inj h
  simp [this]
theorem oct_and : ∀ o < 256, (o &&& 63 = o % 64) ∧ (decide ((o &&& 64) = 0) = !decide (o / 64 % 2 = 1)) := by decide +kernel
theorem or_low (v d : Nat) (hd : d < 64) : Builtin.bitOr ((v * 64 : Nat) : Int) (d : Int) = ((v * 64 + d : Nat) : Int) := by
  rw [bitOr_and, and_nat]
  have : (v * 64) &&& d = 0 := by
    apply Nat.eq_of_testBit_eq
    intro j
    rw [Nat.testBit_and, Nat.zero_testBit, Nat.mul_comm, show 64 = 2 ^ 6 from rfl, Nat.testBit_two_pow_mul]
    by_cases hj : 6 ≤ j
    · rw [Nat.testBit_lt_two_pow (Nat.lt_of_lt_of_le hd (by rw [show 64 = 2 ^ 6 from rfl]; exact Nat.pow_le_pow_right (by decide) hj)), Bool.and_false]
    · simp [hj]
  rw [this]; omega

-- C39
set_option maxRecDepth 100000
theorem oct_get {os : List Nat} {i : Nat} {z : Int} (h : (os.map fun n : Nat => (n : Int))[i]? = some z) : ∃ o, os[i]? = some o ∧ z = (o : Int) := by
  rw [List.getElem?_map] at h
  cases e : os[i]? with
  | none => rw [e] at h; cases h
  | some o => rw [e] at h; cases h; exact ⟨o, rfl, rfl⟩
theorem and63 {o : Nat} (ho : o < 256) : Builtin.bitAnd (o : Int) 63 = ((o % 64 : Nat) : Int) := by
  have := and_nat o 63
  rw [show ((63 : Nat) : Int) = 63 from rfl] at this
  rw [this, (oct_and o ho).1]
theorem and64 {o : Nat} (ho : o < 256) : (Builtin.bitAnd (o : Int) 64 != 0) = decide (o / 64 % 2 = 1) := by
  have := and_nat o 64
  rw [show ((64 : Nat) : Int) = 64 from rfl] at this
  rw [this]
  have h := (oct_and o ho).2
  by_cases q : o / 64 % 2 = 1
  · rw [decide_eq_true q] at h ⊢
    have : ¬ (o &&& 64) = 0 := by intro q; rw [decide_eq_true q] at h; cases h
    simp only [bne_iff_ne, ne_eq]
    omega
  · rw [decide_eq_false q] at h ⊢
    have : (o &&& 64) = 0 := by
      by_cases q : (o &&& 64) = 0
      · exact q
      · rw [decide_eq_false q] at h; cases h
    rw [this]; rfl

section
variable {G : Gd} (hG : GOK G)
include hG

noncomputable def pvS (it : Addr) (b v : Cell) : Sto := [("iterator", .imm (.val (.ref it))), ("b", b), ("val", v)]
theorem pv_ok {it l : Addr} {os : List Nat} {m : Nat} (hm : 0 < m ∧ m ≤ os.length) (ho : ∀ o ∈ os, o < 256) (hlast : ∀ j o, j < m → os[j]? = some o → decide (o / 64 % 2 = 1) = decide (j + 1 < m)) (hs : ∀ j ≤ m, valP os j < 2 ^ 60) :
    XE G 1 (scopeIn (KP G) 63) it l (os.map fun n : Nat => (n : Int)) 0 (pvS it .no .no) (bodyIn (KP G) 63) (fun o j => o = .ret (.int (valP os m)) ∧ j = m) False := by
  conv => arg 9; whnf
  unfold pvS
  refine xe_next (by walk_at "m upd") (by walk_at "m upd") (by walk_at "m gl") (by kernel_rfl) ?_ ?_
  · intro z hy
    obtain ⟨o, hz, rfl⟩ := oct_get hy
    clear hy
    have hoo := ho o (List.mem_of_getElem? hz)
    refine xe_cons (s_asg (by walk_at "m upd") ?_ (by intro _; rfl)); (repeat (walk_at "m pe"))
    show XE _ _ _ _ _ _ _ _ _ _ _
    have e0 : Builtin.bitAnd (o : Int) 63 = ((valP os 1 : Nat) : Int) := by rw [and63 hoo, valP_succ hz]; simp [valP]
    rw [e0]
    refine xe_while (fun f i σ => ∃ j o, i = j + 1 ∧ j < m ∧ f = m - j ∧ os[j]? = some o ∧ σ = pvS it (.imm (.int (o : Nat))) (.imm (.int (valP os (j + 1) : Nat)))) (m - 0) ⟨0, o, rfl, hm.1, rfl, hz, rfl⟩ fun f i σ hI => ?_
    obtain ⟨j, o, rfl, hj, rfl, hz, rfl⟩ := hI
    have hoo := ho o (List.mem_of_getElem? hz)
    unfold pvS
    (repeat (walk_at "m pe"))
    rw [and64 hoo, hlast j o hj hz]
    refine ifB (fun hc => ?_) fun hc => ?_
    · have hc := of_decide_eq_true hc
      (with_reducible refine xe_cons ?_); (with_reducible refine' s_augF ?u ?_); (case u => walk_at "m upd")
      (repeat (walk_at "m pe"))
      have hv := hs (j + 1) (by omega)
      refine op_ilshift (by omega) (by omega) (by rw [Int.natAbs_natCast]; omega) ?_
      refine ⟨.int _, ?_⟩
      show XE _ _ _ _ _ _ _ _ _ _ _
      refine xe_next (by walk_at "m upd") (by walk_at "m upd") (by walk_at "m gl") (by kernel_rfl) ?_ ?_
      · intro z hy
        obtain ⟨o', hz', rfl⟩ := oct_get hy
        clear hy
        have hoo' := ho o' (List.mem_of_getElem? hz')
        (with_reducible refine xe_cons ?_); (with_reducible refine' s_augF ?u ?_); (case u => walk_at "m upd")
        (repeat (walk_at "m pe"))
        refine op_ior ⟨.int _, ?_⟩
        show XE _ _ _ _ _ _ _ _ _ _ _
        refine xe_nil ⟨m - (j + 1), by omega, j + 1, o', rfl, hc, rfl, hz', ?_⟩
        have e1 : ((valP os (j + 1) : Nat) : Int) * 2 ^ (6 : Int).toNat = ((valP os (j + 1) * 64 : Nat) : Int) := by
          rw [show (6 : Int).toNat = 6 from rfl]; omega
        rw [and63 hoo', e1, or_low _ _ (Nat.mod_lt _ (by decide)), ← valP_succ hz']
      · intro hn
        have := List.getElem?_eq_none_iff.mp hn
        rw [List.length_map] at this
        omega
    · have hc := of_decide_eq_false hc
      have hjm : j + 1 = m := by omega
      (with_reducible refine xe_cons ?_); (with_reducible refine s_return ?_); (repeat (walk_at "m pe"))
      rw [hjm]
      exact ⟨.int _, rfl, rfl⟩
  · intro hn
    have := List.getElem?_eq_none_iff.mp hn
    rw [List.length_map] at this
    omega

theorem pv_stop {it l : Addr} {os : List Nat} {m o : Nat} (hm : os.length = m + 1) (hz : os[m]? = some o) (hoo : o < 256) (h6 : o / 64 % 2 = 1) :
    XE G 1 (scopeIn (KP G) 63) it l (os.map fun n : Nat => (n : Int)) m (pvS it .no .no) (bodyIn (KP G) 63) (fun o j => False) True := by
  conv => arg 9; whnf
  unfold pvS
  refine xe_next (by walk_at "m upd") (by walk_at "m upd") (by walk_at "m gl") (by kernel_rfl) ?_ ?_
  · intro z hy
    obtain ⟨o', hz', rfl⟩ := oct_get hy
    clear hy
    rw [hz] at hz'
    cases hz'
    refine xe_cons (s_asg (by walk_at "m upd") ?_ (by intro _; rfl)); (repeat (walk_at "m pe"))
    show XE _ _ _ _ _ _ _ _ _ _ _
    rw [and63 hoo]
    refine xe_while (fun f i σ => i = m + 1 ∧ σ = pvS it (.imm (.int (o : Nat))) (.imm (.int (o % 64 : Nat)))) 1 ⟨rfl, rfl⟩ fun f i σ hI => ?_
    obtain ⟨rfl, rfl⟩ := hI
    unfold pvS
    (repeat (walk_at "m pe"))
    rw [and64 hoo, decide_eq_true h6]
    refine ifT rfl ?_
    (with_reducible refine xe_cons ?_); (with_reducible refine' s_augF ?u ?_); (case u => walk_at "m upd")
    (repeat (walk_at "m pe"))
    have := Nat.mod_lt o (show 64 > 0 by decide)
    refine op_ilshift (by omega) (by omega) (by rw [Int.natAbs_natCast]; omega) ?_
    refine ⟨.int _, ?_⟩
    show XE _ _ _ _ _ _ _ _ _ _ _
    refine xe_next (by walk_at "m upd") (by walk_at "m upd") (by walk_at "m gl") (by kernel_rfl) ?_ ?_
    · intro z hz'
      have := (List.getElem?_eq_some_iff.mp hz').1
      simp only [List.length_map] at this
      omega
    · exact fun _ => trivial
  · exact fun _ => trivial
end

-- C40
set_option maxRecDepth 100000
/-! ### calls of _parse_varint -/
theorem execs_append (env : Env) : ∀ (a b : List Stmt), execs (a ++ b) env = (execs a env >>= fun f => match f with | .next => execs b env | f => pure f)
  | [], b => by
    show execs b env = (pure Flow.next >>= _)
    rw [pure_bind]
  | st :: a, b => by
    rw [List.cons_append, execs_cons, execs_cons, bind_assoc]
    congr 1
    funext f
    cases f <;> first | exact execs_append env a b | (simp only [pure_bind])
theorem wpAny_execs_append {M : Model} {A : Around} {E : Value → Shared → Prop} {s : Shared} {env : Env} {a b : List Stmt} {Q : Flow → Shared → Prop}
    (h : wpAny M A (execs a env) (fun f s' => match f with | .next => wpAny M A (execs b env) Q E s' | f => Q f s') E s) : wpAny M A (execs (a ++ b) env) Q E s := by
  rw [execs_append]
  refine wpAny_bind (wpAny_mono h (fun f s' h' => ?_) fun _ _ x => x)
  cases f <;> first | exact h' | exact wpAny_pure h'

/-- the state at a call, for one who draws from `it` -/
structure ItAt (G : Gd) (it l : Addr) (octs : List Int) (h₀ : Heap) (i : Nat) (I : Store) (s : Shared) : Prop where
  b : G.B h₀
  k : ∀ b o, h₀.get? b = some o → s.heap.get? b = some o
  hit : h₀.get? it = none
  sub : Sub I s.heap.get?
  itI : I it = none
  at_ : s.heap.IsListIter it l i
  li : ∃ n vs, I l = some (lobj vs n) ∧ RepL I (octs.map D.int) vs.toList

section
variable {G : Gd} (hG : GOK G)
include hG

theorem pv_start {it l : Addr} {octs : List Int} {h₀ : Heap} {i : Nat} {I : Store} {s : Shared} (X : ItAt G it l octs h₀ i I s) {A : Around} (oa : OkA 2 A) {R : Prop} {K E : Value → Shared → Prop} {P : D → Nat → Prop}
    (H : XE G 1 (scopeIn (KP G) 63) it l octs i (pvS it .no .no) (bodyIn (KP G) 63) (fun o j => ∃ d, o = .ret d ∧ P d j) R)
    (hK : ∀ v s' d j I', (∃ h tk, s' = { s with heap := h, toks := tk }) → (∀ b o, b ≠ it → s.heap.get? b = some o → s'.heap.get? b = some o) → s'.heap.IsListIter it l j → Rep I' d v → P d j → K v s')
    (hE : R → ∀ env, env.frame = some env.locals → env.scope.kind = .function → s.heap.get? env.locals = none → ∀ s₁ : Shared, (∃ o, s₁.heap.get? env.locals = some o ∧ ∀ vs, o.data ≠ .fields vs) → (∃ h tk, s₁ = { s with heap := h, toks := tk }) → (∀ b o, b ≠ it → s.heap.get? b = some o → s₁.heap.get? b = some o) →
      ∀ e oe vs a0, s.heap.get? e = none → s₁.heap.get? e = some oe → oe.cls = .type "StopIteration" → oe.data = .fields vs → vs[1]? = some .none → vs[0]? = some a0 → wpAny G.M (A.deeper env) (leaving env (.ref e)) (fun _ s'' => E (.ref e) s'') (fun e' s'' => E e' s'') s₁) :
    wpAny G.M A (call (.ref 63) [.ref it]) K E s := by
  refine fn_enter (others := ["b", "val"]) (ds := [.val (.ref it)]) (k := 1) (h₀ := h₀) (I := I) (F63 hG) (by kernel_rfl) rfl oa X.b X.k X.sub (repL_cons.mpr ⟨_, _, rfl, rep_val.mpr rfl, repL_nil.mpr rfl⟩) fun env s₁ T oa' eo hf S hsame hkeep hT => ?_
  obtain ⟨oi, hoi, hri⟩ := X.at_
  have itT : it ∉ T := fun q => by rw [hT it q] at hoi; cases hoi
  have P₀ : PV it l octs s i T I s₁ := ⟨hsame, fun b o hb e => ⟨hkeep b o e, fun q => by rw [hT b q] at e; cases e⟩, itT, X.itI, ⟨oi, hkeep _ _ hoi, hri⟩, X.li, by rw [hoi]; exact Option.some_ne_none _⟩
  have hloc : s.heap.get? env.locals = none := hT _ S.loc
  refine wpAny_mono (H h₀ (A.deeper env) env T I s₁ s _ oa' eo PassesOwn.leaving X.hit X.k S P₀ fun r s' e oe vs a0 h1 h2 h3 h4 h5 h6 h7 h8 h9 => ?_) (fun f s' p => ?_) fun _ _ x => x
  · exact hE r env hf (by rw [eo.scope]; exact eo.kind) hloc s' h3 h1 h2 e oe vs a0 h4 h5 h6 h7 h8 h9
  · cases f with
    | next => obtain ⟨_, _, _, _, _, _, d, p, _⟩ := p; cases p
    | cont => exact p.elim
    | brk => exact p.elim
    | ret v =>
      obtain ⟨I', d, j, r, h1, h2, h3, d', hd, q⟩ := p
      cases hd
      exact hK v s' d j I' h1 h2 h3 r q

theorem pv_call_ok {it l : Addr} {os : List Nat} {m : Nat} {h₀ : Heap} {I : Store} {s : Shared} (X : ItAt G it l (os.map fun n : Nat => (n : Int)) h₀ 0 I s) {A : Around} (oa : OkA 2 A) {K E : Value → Shared → Prop}
    (hm : 0 < m ∧ m ≤ os.length) (ho : ∀ o ∈ os, o < 256) (hlast : ∀ j o, j < m → os[j]? = some o → decide (o / 64 % 2 = 1) = decide (j + 1 < m)) (hs : ∀ j ≤ m, valP os j < 2 ^ 60)
    (hK : ∀ t s', (∃ h tk, s' = { s with heap := h, toks := tk }) → (∀ b o, b ≠ it → s.heap.get? b = some o → s'.heap.get? b = some o) → s'.heap.IsListIter it l m → K (.int (valP os m) t) s') :
    wpAny G.M A (call (.ref 63) [.ref it]) K E s := by
  refine pv_start hG X oa (R := False) (P := fun d j => d = .int (valP os m) ∧ j = m) (fun h₀ A env T I s s₀ E oa eo pE hit hk S P hE => wpAny_mono (pv_ok hG hm ho hlast hs h₀ A env T I s s₀ E oa eo pE hit hk S P hE) (fun f s' p => ?_) fun _ _ x => x) (fun v s' d j I' h1 h2 h3 r ⟨hd, hj⟩ => ?_) fun r => r.elim
  · cases f with
    | next => obtain ⟨a, b, c, d, e, f, p, q⟩ := p; cases p
    | cont => exact p.elim
    | brk => exact p.elim
    | ret v => obtain ⟨I', d, j, r, h1, h2, h3, e, q⟩ := p; cases e; exact ⟨I', _, j, r, h1, h2, h3, _, rfl, rfl, q⟩
  · subst hd
    subst hj
    obtain ⟨t, rfl⟩ := rep_int.mp r
    exact hK t s' h1 h2 h3

theorem pv_call_stop {it l : Addr} {os : List Nat} {m o : Nat} {h₀ : Heap} {I : Store} {s : Shared} (X : ItAt G it l (os.map fun n : Nat => (n : Int)) h₀ m I s) {A : Around} (oa : OkA 2 A) {K E : Value → Shared → Prop}
    (hm : os.length = m + 1) (hz : os[m]? = some o) (hoo : o < 256) (h6 : o / 64 % 2 = 1) {base : Heap} {outer : List Env} (hfr : A.frames = some outer) (hfun : s.heap.FunFrames base outer) (hst : base.StaysIn s.heap) (hbi : base.get? it = none)
    (hE : ∀ s' e a0, (∃ h tk, s' = { s with heap := h, toks := tk }) → Heap.FlyingW base outer e (.type "StopIteration") a0 s'.heap → s.heap.UpToSlots s'.heap → E (.ref e) s') :
    wpAny G.M A (call (.ref 63) [.ref it]) K E s := by
  have hbn : ∀ b, s.heap.get? b = none → base.get? b = none := fun b e => by
    cases q : base.get? b with
    | none => rfl
    | some o => rw [hst b o q] at e; cases e
  obtain ⟨oi, hoi, hci, hdi⟩ := X.at_
  refine pv_start hG X oa (R := True) (P := fun _ _ => False) (fun h₀ A env T I s s₀ E oa eo pE hit hk S P hE => wpAny_mono (pv_stop hG hm hz hoo h6 h₀ A env T I s s₀ E oa eo pE hit hk S P hE) (fun f s' p => ?_) fun _ _ x => x) (fun v s' d j I' h1 h2 h3 r p => p.elim) fun _ env hf hk hloc s₁ hlo hsame hold e oe vs a0 hen he hc hd h1 h0 => ?_
  · cases f with
    | next => obtain ⟨a, b, c, d, e, f, p⟩ := p; exact p.elim
    | cont => exact p.elim
    | brk => exact p.elim
    | ret v => obtain ⟨I', d, j, r, h1, h2, h3, p⟩ := p; exact p.elim
  · have hst₁ : base.StaysIn s₁.heap := fun b o q => hold b o (fun x => by subst x; rw [hbi] at q; cases q) (hst b o q)
    have up : ∀ b o, s.heap.get? b = some o → (∀ vs, o.data ≠ .fields vs) → s₁.heap.get? b = some o := fun b o q hn => hold b o (fun x => by
      subst x; rw [hoi] at q; cases q; exact hn _ hdi) q
    have hff : s₁.heap.FunFrames base (env :: outer) := ⟨by rw [hk]; decide, (by
      obtain ⟨o, ho, hn⟩ := hlo
      exact ⟨env.locals, o, hf, hbn _ hloc, ho, hn⟩), hfun.of_keeps fun b o q hn => ⟨o, up b o q hn, rfl⟩⟩
    have hen' : base.get? e = none := hbn e hen
    refine wpAny_leaving_firstW (base := base) (env := env) (outer := outer) (L := env.locals) (by rw [show (A.deeper env).frames = A.frames.map (env :: ·) from rfl, hfr]; rfl) hff hf he hst₁ hen' hd h1 h0 fun h' hL => ?_
    obtain ⟨k1, k2, k3, k4⟩ := hL
    rw [hc] at k3
    obtain ⟨hh, tk, rfl⟩ := hsame
    exact hE _ e a0 ⟨h', tk, rfl⟩ ⟨k1, hen', k2.2.2, k3⟩ fun b o q hn => k4 b o (up b o q hn) hn
end

-- C41
set_option maxRecDepth 100000
/-! ### _law_read -/
noncomputable def enc (n i : Nat) : Nat := n / 64 ^ i % 64 + (if i = 0 then 0 else 64)
noncomputable def octL (n j : Nat) : List Nat := (List.range (j + 1)).reverse.map (enc n)
noncomputable def mkO (os : List Nat) (torn : Nat) : List Nat := os.map (fun o => o + 128 * (o / 2 % 2)) ++ [64 + torn]
noncomputable def natD (os : List Nat) : List D := os.map fun n : Nat => D.int n
noncomputable def rdS (a : Nat) (torn : Nat) (os : List D) (t1 t2 : Cell) : Sto := [("number", .imm (.int a)), ("torn", .imm (.int torn)), ("octets", .imm (.list os)), ("tape", t1), ("told", t2)]
theorem octL_succ (n j : Nat) : octL n (j + 1) = (64 + n / 64 ^ (j + 1) % 64) :: octL n j := by
  unfold octL
  rw [List.range_succ (n := j + 1), List.reverse_append, List.reverse_singleton, List.singleton_append, List.map_cons]
  congr 1
  unfold enc
  rw [if_neg (Nat.succ_ne_zero j)]; omega
noncomputable def argOf : Option Stmt → Expr
  | some (Stmt.Assign _ (Expr.Call _ [e] _ _) _) => e
  | _ => Expr.Name "" default
noncomputable def tapeE (G : Gd) : Expr := argOf (bodyIn (KP G) 89)[2]?

section
variable {G : Gd} (hG : GOK G)
include hG
theorem read_pre {n torn : Nat} (hn : n < 2 ^ 36) : SE G 2 (scopeIn (KP G) 89) (sto0 ["number", "torn"] [.int n, .int torn] ["octets", "tape", "told"]) ((bodyIn (KP G) 89).take 2)
    (fun o => ∃ j, n / 64 ^ j ≤ 63 ∧ j ≤ 6 ∧ o = .next (rdS (n / 64 ^ j) torn (natD (octL n j)) .no .no)) := by
  ((conv => arg 5; whnf); dsimp only [sto0, List.zip, List.zipWith, List.map, List.cons_append, List.nil_append])
  ((walk_at "m as0"; (repeat (walk_at "m pe"))))
  refine ⟨by simp, ?_⟩
  (first | (refine seId ?_) | (refine stR (by walk_at "m upd") ?_))
  refine se_cons ?_
  refine s_while (fun f σ => ∃ j, f = n / 64 ^ j ∧ j ≤ 6 ∧ σ = rdS (n / 64 ^ j) torn (natD (octL n j)) .no .no) n ⟨0, by simp, by omega, ?_⟩ fun f σ hI K hK => ?_
  · rw [show ((n : Int).fmod 64) = ((n % 64 : Nat) : Int) from fmodN n 64]
    simp [rdS, natD, octL, enc, List.range_succ]
  · obtain ⟨j, rfl, hj, rfl⟩ := hI
    unfold rdS
    (repeat (walk_at "m pe"))
    refine ⟨_, rfl, ifB (fun hc => ?_) fun hc => ?_⟩
    · have hc : 63 < n / 64 ^ j := by have := of_decide_eq_true hc; omega
      have hj5 : j ≤ 5 := by
        rcases Nat.lt_or_ge j 6 with h | h
        · omega
        · have : j = 6 := by omega
          subst this
          rw [Nat.div_eq_of_lt (by rw [show 64 ^ 6 = 2 ^ 36 by decide]; exact hn)] at hc
          omega
      have e1 : (((n / 64 ^ j : Nat) : Int).fdiv 64) = ((n / 64 ^ (j + 1) : Nat) : Int) := by
        rw [Nat.pow_succ, ← Nat.div_div_eq_div_mul]; exact fdivN _ 64
      ((walk_at "m as0"; (repeat (walk_at "m pe"))))
      rw [e1]
      (first | (refine seId ?_) | (refine stR (by walk_at "m upd") ?_))
      have e2 : (((n / 64 ^ (j + 1) : Nat) : Int).fmod 64) = ((n / 64 ^ (j + 1) % 64 : Nat) : Int) := fmodN _ 64
      ((walk_at "m as0"; (repeat (walk_at "m pe"))))
      rw [e2]
      refine ⟨by simp, ?_⟩
      (repeat (walk_at "m pe"))
      refine op_add_list (by simp [natD, octL]; omega) ?_
      (first | (refine seId ?_) | (refine stR (by walk_at "m upd") ?_))
      refine se_nil (hK _ ⟨n / 64 ^ (j + 1), ?_, j + 1, rfl, by omega, ?_⟩)
      · rw [Nat.pow_succ, ← Nat.div_div_eq_div_mul]; omega
      · rw [octL_succ]
        unfold natD
        rw [List.map_cons]
        have : (64 : Int) + ((n / 64 ^ (j + 1) % 64 : Nat) : Int) = ((64 + n / 64 ^ (j + 1) % 64 : Nat) : Int) := by omega
        rw [this]; rfl
    · have hc : n / 64 ^ j ≤ 63 := by have := of_decide_eq_false hc; omega
      refine se_nil ?_
      (first | (refine seId ?_) | (refine stR (by walk_at "m upd") ?_))
      refine se_nil ⟨j, hc, hj, rfl⟩
theorem read_tape {a torn : Nat} {os : List Nat} (hl : os.length ≤ 100) : PE G 2 (scopeIn (KP G) 89) (immR (rdS a torn (natD os) .no .no)) (tapeE G) (fun d => d = .list (natD (mkO os torn))) := by
  conv => arg 5; whnf
  refine pe_binop ?_
  refine pe_comp (by kernel_rfl) (ie_list ?_) (by intro _ _; rfl)
  unfold rdS
  (repeat (walk_at "m pe"))
  refine ⟨_, rfl, ?_⟩
  unfold natD
  refine CompL_fold (fun n : Nat => D.int n) (fun _ => true) (fun o => .int ((o + 128 * (o / 2 % 2) : Nat) : Int)) os [] (fun o ho next acc hacc hn => ?_) (by simp; omega) ?_
  · refine ⟨_, .name _ _ _, tgt_capt (by kernel_rfl), ?_⟩
    show PE _ _ _ _ _ _
    have e1 : ((o : Int).fdiv 2).fmod 2 = ((o / 2 % 2 : Nat) : Int) := by
      rw [Int.fdiv_eq_ediv_of_nonneg _ (by omega), Int.fmod_eq_emod_of_nonneg _ (by omega)]; omega
    refine pe_binop ?_
    walk_at "m pe"
    refine pe_binop ?_
    walk_at "m pe"
    refine pe_binop ?_
    refine pe_binop ?_
    (repeat (walk_at "m pe"))
    rw [e1]
    refine ⟨hacc, ?_⟩
    have e2 : (o : Int) + 128 * ((o / 2 % 2 : Nat) : Int) = ((o + 128 * (o / 2 % 2) : Nat) : Int) := by omega
    rw [e2]
    simpa using hn
  · rw [List.nil_append, show os.filter (fun _ => true) = os by simp]
    refine pe_list ?_
    (repeat (walk_at "m pe"))
    refine ⟨by simp, ?_⟩
    refine op_add_list (by simp; omega) ?_
    unfold mkO
    rw [List.map_append, List.map_map]
    congr 2
end

-- C42
set_option maxRecDepth 100000
/-- from a call's start on: what was there stays -/
structure RD (s : Shared) (I₀ : Store) (T : List Addr) (I : Store) (s' : Shared) : Prop where
  same : ∃ h tk, s' = { s with heap := h, toks := tk }
  old : ∀ b o, s.heap.get? b = some o → s'.heap.get? b = some o ∧ b ∉ T
  sub : Sub I₀ I
  new : ∀ b o, I b = some o → I₀ b = some o ∨ s.heap.get? b = none
section
variable {s s' s'' : Shared} {I₀ I I' : Store} {T T' : List Addr}
theorem RD.tr (r : RD s I₀ T I s') (t : Tr T I s' T' I' s'') : RD s I₀ T' I' s'' := by
  have nn : ∀ b, s'.heap.get? b = none → s.heap.get? b = none := fun b e => none_of_keep (fun b o e => (r.old b o e).1) e
  refine ⟨?_, fun b o e => ?_, r.sub.trans t.sub, fun b o e => ?_⟩
  · obtain ⟨h, tk, rfl⟩ := r.same
    obtain ⟨h', tk', rfl⟩ := t.same
    exact ⟨h', tk', rfl⟩
  · obtain ⟨e1, e2⟩ := r.old b o e
    refine ⟨t.keep _ _ e2 e1, fun q => ?_⟩
    rcases t.newT b q with q | q
    · exact e2 q
    · rw [e1] at q; cases q
  · rcases t.new b o e with q | q | q
    · exact r.new b o q
    · right
      cases h : s.heap.get? b with
      | none => rfl
      | some o' => exact absurd q (r.old b o' h).2
    · exact .inr (nn b q)
end

section
variable {G : Gd} (hG : GOK G)
include hG

/-- what the names of the handler's frame say, at any heap that holds the first one -/
theorem glob_at {h₀ h : Heap} (hB : G.B h₀) (hk : ∀ b o, h₀.get? b = some o → h.get? b = some o) {M : Model} {A : Around} {E : Value → Shared → Prop} {s : Shared} (hs : s.heap = h) {env : Env} {sc : Scope} (eo : EnvOk sc env) {x : Str} {v : Value} {p : Pos} {Q : Value → Shared → Prop}
    (hx : (x, v) ∈ G.gl) (hkd : sc.names.lookup x = some .globalImplicit) (h1 : Q v s) : wpAny M A (eval (.Name x p) env) Q E s := by
  obtain ⟨a, b⟩ := G.glob (G.keeps hB hk) x v hx
  have hk' : env.kindOf x = some .globalImplicit := by rw [Env.kindOf, eo.scope]; exact hkd
  refine Name_function_global (by rw [eo.scope]; exact eo.kind) hk' ?_ a
  rcases b with ⟨mg, n, e⟩ | ⟨mg, mb, n, e, n', e'⟩
  · exact loadGlobal_global (by rw [eo.globals, hs]; exact n) e h1
  · exact loadGlobal_builtin (by rw [eo.globals, hs]; exact n) e (by rw [eo.builtins, hs]; exact n') e' h1

/-- «str(_parse_varint(tape))» -/
theorem read_str {k : Nat} {sc : Scope} {A : Around} {env : Env} {h₀ : Heap} {T : List Addr} {I : Store} {σ : Sto} {s : Shared} {p1 p2 p3 p4 p5 : Pos} {it : Addr} {Q E : Value → Shared → Prop} (oa : OkA k A) (eo : EnvOk sc env) (S : SIn G h₀ env T I σ s) (ht : MemI σ ("tape" : Str) (.val (.ref it)))
    (k1 : sc.names.lookup ("str" : Str) = some .globalImplicit) (k2 : sc.names.lookup ("_parse_varint" : Str) = some .globalImplicit)
    (h : ∀ s₁ I₁, Grow s I s₁ I₁ → wpAny G.M A (call (.ref 63) [.ref it]) (fun v s' => wpAny G.M A (call (.type "str") [v]) Q E s') E s₁) :
    wpAny G.M A (eval (.Call (.Name "str" p1) [.Call (.Name "_parse_varint" p2) [.Name "tape" p3] [] p4] [] p5) env) Q E s := by
  have hn : PE G k sc (immR σ) (.Name "str" p1) fun d => d = .val (.type "str") := pe_glob (by walk_at "m gl") k1 (d := .val (.type "str")) (fun I => rep_val.mpr rfl) rfl
  have hn2 : PE G k sc (immR σ) (.Name "_parse_varint" p2) fun d => d = .val (.ref 63) := pe_glob (by walk_at "m gl") k2 (d := .val (.ref 63)) (fun I => rep_val.mpr rfl) rfl
  have hargs : PL G k sc (immR σ) [.Name "tape" p3] fun ds => ds = [.val (.ref it)] := pl_cons (pe_name (mem_I ht) (pl_nil rfl))
  refine Call_ (wpAny_mono (hn A env I s oa eo S.immN) (fun v s₁ ⟨I₁, d, g₁, r₁, q₁⟩ => ?_) fun _ _ x => x.elim)
  subst q₁
  rw [rep_val] at r₁
  subst r₁
  have S₁ := S.grow g₁
  refine PySem.callWith_type rfl (evalArgs_any rfl (args_cons ?_))
  refine Call_ (wpAny_mono (hn2 A env I₁ s₁ oa eo S₁.immN) (fun v s₂ ⟨I₂, d, g₂, r₂, q₂⟩ => ?_) fun _ _ x => x.elim)
  subst q₂
  rw [rep_val] at r₂
  subst r₂
  have S₂ := S₁.grow g₂
  have hB₂ : G.B s₂.heap := G.keeps S₂.base.1 S₂.base.2.1
  obtain ⟨o, fd, ho, hd⟩ := hf_of (G := G) hG (a := 63) (by kernel_rfl) _ hB₂
  refine callWith_function (o := o) (fd := fd) (evalArgs_any rfl (wpAny_mono (hargs A env I₂ s₂ p4 oa eo S₂.immN) (fun vs s₃ ⟨I₃, ds, g₃, r₃, q₃⟩ => ?_) fun _ _ x => x.elim))
  subst q₃
  obtain ⟨v, rfl, r⟩ := repL_one r₃
  rw [rep_val] at r
  subst r
  refine ⟨⟨g₃.keep _ _ ho, hd⟩, ?_⟩
  refine wpAny_mono (h s₃ I₃ ((g₁.trans g₂).trans g₃)) (fun v s' hv => ?_) fun _ _ x => x
  exact args_nil hv
end

-- C43
set_option maxRecDepth 100000
theorem ri_entry : entryFor table "iter" = some Builtin.«iter» := entryFor_of_fast (by kernel_rfl)
theorem ri_args (a : Value) : argsOk "iter" ⟨[a], []⟩ := by unfold argsOk; kernel_rfl
theorem stop_exc : isSubtype (.type "StopIteration") (.type "BaseException") = pure true := by rw [isSubtype_type]; kernel_rfl
theorem stop_self : isSubtype (.type "StopIteration") (.type "StopIteration") = pure true := by rw [isSubtype_type]; kernel_rfl
theorem stop_nt : isSubtype (.type ((Manifest.find? "StopIteration").elim "type" fun x => x.metatype)) (.type "tuple") = pure false := by
  have : (Manifest.find? "StopIteration").elim "type" (fun x => x.metatype) = "type" := by kernel_rfl
  rw [this, isSubtype_type]; kernel_rfl

section
variable {G : Gd} (hG : GOK G)
include hG
variable {k : Nat} {sc : Scope} {A : Around} {env : Env} {h₀ : Heap} {T : List Addr} {I I₀ : Store} {σ : Sto} {s s₀ : Shared} {mk : Cell → Sto} {c0 : Cell} {Q : Flow → Shared → Prop} {E : Value → Shared → Prop}

theorem r_tape {e : Expr} {p1 p2 p3 p4 : Pos} {os : List Nat} (oa : OkA k A) (eo : EnvOk sc env) (S : SIn G h₀ env T I σ s) (u : UpdF σ ("tape" : Str) c0 mk) (k1 : sc.names.lookup ("iter" : Str) = some .globalImplicit) (he : PE G k sc (immR σ) e fun d => d = .list (natD os))
    (he2 : ∀ env, starEach [e] env = [(false, eval e env)])
    (h : ∀ it l I' s', Tr T I s T I' s' → SIn G h₀ env T I' (mk (.imm (.val (.ref it)))) s' → s.heap.get? it = none → ItAt G it l (os.map fun n : Nat => (n : Int)) h₀ 0 I' s' → it ∉ T → Q .next s') :
    wpAny G.M A (exec (.Assign [.Name "tape" p1] (.Call (.Name "iter" p2) [e] [] p3) p4) env) Q E s := by
  obtain ⟨j, hj, e1⟩ := u.idx
  have hn : PE G k sc (immR σ) (.Name "iter" p2) fun d => d = .val (.builtin "iter") := pe_glob (by walk_at "m gl") k1 (d := .val (.builtin "iter")) (fun I => rep_val.mpr rfl) rfl
  have hargs : PL G k sc (immR σ) [e] fun ds => ds = [.list (natD os)] := pl_cons (he.mono fun d q => pl_nil (by rw [q])) (fun env => (he2 env).trans rfl)
  refine wpAny_Assign_Name ?_ rfl
  refine Call_ (wpAny_mono (hn A env I s oa eo S.immN) (fun v s₁ ⟨I₁, d, g₁, r₁, q₁⟩ => ?_) fun _ _ x => x.elim)
  subst q₁
  rw [rep_val] at r₁
  subst r₁
  have S₁ := S.grow g₁
  have hp : ∀ pos, (backTo pos (starEach [e] env)).any (·.1) = false := fun pos => by rw [he2 env]; rfl
  refine callWith_builtin (hp p3) (evalArgs_any (hp p3) (wpAny_mono (hargs A env I₁ s₁ p3 oa eo S₁.immN) (fun vs s₂ ⟨I₂, ds, g₂, r₂, q₂⟩ => ?_) fun _ _ x => x.elim))
  subst q₂
  obtain ⟨v, rfl, r⟩ := repL_one r₂
  obtain ⟨l, n, us, rfl, hi, rl⟩ := rep_list.mp r
  have S₂ := S₁.grow g₂
  have ho := S₂.sub _ _ hi
  have hl : s₂.heap.IsList l us := ⟨_, ho, rfl, n, rfl⟩
  refine call_function_entry (by decide +kernel) (by decide +kernel) ri_entry (ri_args _) ?_
  unfold Builtin.«iter»
  refine wpAny_bind (m := someArgs "iter" 1 2 _) (wpAny_of_eq (a := [Value.ref l]) (by first | rfl | kernel_rfl!) ?_)
  show wpAny _ _ (pyIter (.ref l) >>= _) _ _ _
  refine wpAny_bind (wpAny_pyIter_list hl ?_)
  refine wpAny_pure ⟨_, rfl, ?_⟩
  have g₃ : Grow s₂ I₂ { s₂ with heap := s₂.heap.push { cls := .type "list_iterator", data := .fields #[.ref l, .int 0 0] } } I₂ := Grow.heap (t := s₂.toks) S₂.sub (fun b o e => Heap.get?_push_of_some _ e)
  have S₃ := S₂.grow g₃
  have nT : s₂.heap.objs.size ∉ T := fun hb => S₂.live _ hb (size_none _)
  have nI : I₂ s₂.heap.objs.size = none := by
    cases e : I₂ s₂.heap.objs.size with
    | none => rfl
    | some o => have := S₂.sub _ _ e; rw [size_none] at this; cases this
  refine S₃.store hj (c := .imm (.val (.ref s₂.heap.objs.size))) (show Rep I₂ (.val (.ref s₂.heap.objs.size)) (.ref s₂.heap.objs.size) from rep_val.mpr rfl) fun s₄ t₄ S₄ => ?_
  rw [e1] at S₄
  have t := ((Tr.of_grow (T := T) g₁).trans (Tr.of_grow g₂)).trans ((Tr.of_grow g₃).trans t₄)
  have gi := g₁.trans g₂
  refine h s₂.heap.objs.size l I₂ s₄ t S₄ (none_of_keep gi.keep (size_none _)) ⟨S₄.base.1, S₄.base.2.1, none_of_keep S₂.base.2.1 (size_none _), S₄.sub, nI, ?_, n, us, hi, ?_⟩ nT
  · exact ⟨_, t₄.keep _ _ nT (Heap.get?_push_size _ rfl), rfl, rfl⟩
  · rw [List.map_map]; exact rl

theorem ItAt.grow {it l : Addr} {octs : List Int} {i : Nat} {s' : Shared} {I' : Store} (X : ItAt G it l octs h₀ i I s) (g : Grow s I s' I') : ItAt G it l octs h₀ i I' s' := by
  obtain ⟨o, ho, hr⟩ := X.at_
  obtain ⟨n, vs, e, r⟩ := X.li
  refine ⟨X.b, fun b o e => g.keep b o (X.k b o e), X.hit, g.sub', ?_, ⟨o, g.keep _ _ ho, hr⟩, n, vs, g.sub _ _ e, r.mono g.sub⟩
  cases q : I' it with
  | none => rfl
  | some o' =>
    rcases g.new it o' q with q | q
    · rw [X.itI] at q; cases q
    · rw [ho] at q; cases q

theorem r_told {it l : Addr} {os : List Nat} {m : Nat} {p1 p2 p3 p4 p5 p6 p7 p8 : Pos} (oa : OkA 2 A) (eo : EnvOk sc env) (S : SIn G h₀ env T I σ s) (R : RD s₀ I₀ T I s) (X : ItAt G it l (os.map fun n : Nat => (n : Int)) h₀ 0 I s) (itT : it ∉ T) (itN : s₀.heap.get? it = none)
    (u : UpdF σ ("told" : Str) c0 mk) (ht : MemI σ ("tape" : Str) (.val (.ref it))) (k1 : sc.names.lookup ("str" : Str) = some .globalImplicit) (k2 : sc.names.lookup ("_parse_varint" : Str) = some .globalImplicit)
    (hm : 0 < m ∧ m ≤ os.length) (ho : ∀ o ∈ os, o < 256) (hlast : ∀ j o, j < m → os[j]? = some o → decide (o / 64 % 2 = 1) = decide (j + 1 < m)) (hs : ∀ j ≤ m, valP os j < 2 ^ 60)
    (h : ∀ I' s', RD s₀ I₀ T I' s' → SIn G h₀ env T I' (mk (.imm (.list [.str (toString (valP os m : Int))]))) s' → ItAt G it l (os.map fun n : Nat => (n : Int)) h₀ m I' s' → Q .next s') :
    wpAny G.M A (exec (.Assign [.Name "told" p1] (.List [.Call (.Name "str" p2) [.Call (.Name "_parse_varint" p3) [.Name "tape" p4] [] p5] [] p6] p7) p8) env) Q E s := by
  obtain ⟨j, hj, e1⟩ := u.idx
  refine wpAny_Assign_Name (List_ (args_cons ?_)) rfl
  refine read_str hG oa eo S ht k1 k2 fun s₁ I₁ g₁ => ?_
  have S₁ := S.grow g₁
  have X₁ := ItAt.grow hG X g₁
  have R₁ := R.tr (Tr.of_grow g₁)
  refine pv_call_ok hG X₁ oa hm ho hlast hs fun t s₂ hsame hold hit => ?_
  obtain ⟨h₂, tk₂, rfl⟩ := hsame
  have hk₂ : ∀ b o, b ∉ [it] → s₁.heap.get? b = some o → h₂.get? b = some o := fun b o hb e => hold b o (fun q => hb (by simp [q])) e
  have S₂ : SIn G h₀ env T I₁ σ { s₁ with heap := h₂, toks := tk₂ } := S₁.wr hk₂ fun b hb => by simp at hb; subst hb; exact ⟨itT, X₁.itI, X₁.hit⟩
  have R₂ : RD s₀ I₀ T I₁ { s₁ with heap := h₂, toks := tk₂ } := by
    refine ⟨?_, fun b o e => ?_, R₁.sub, R₁.new⟩
    · obtain ⟨h, tk, rfl⟩ := R₁.same; exact ⟨h₂, tk₂, rfl⟩
    · obtain ⟨e1, e2⟩ := R₁.old b o e
      exact ⟨hk₂ b o (fun q => by simp at q; subst q; rw [itN] at e; cases e) e1, e2⟩
  have X₂ : ItAt G it l (os.map fun n : Nat => (n : Int)) h₀ m I₁ { s₁ with heap := h₂, toks := tk₂ } := ⟨X₁.b, S₂.base.2.1, X₁.hit, S₂.sub, X₁.itI, hit, X₁.li⟩
  have hv : valP os m < 2 ^ 60 := hs m (Nat.le_refl _)
  have hlog : (valP os m : Int).natAbs.log2 < 1920 := by
    rw [Int.natAbs_natCast]
    by_cases h0 : valP os m = 0
    · rw [h0]; decide
    · exact Nat.lt_trans ((Nat.log2_lt h0).mpr hv) (by decide)
  refine PySem.P.str_of_int hlog ?_
  refine args_nil ?_
  have g₃ : Grow { s₁ with heap := h₂, toks := tk₂ } I₁ { s₁ with heap := h₂, toks := tk₂ + 1 } I₁ := Grow.tok S₂.sub _
  refine wpAny_newObj_type ?_ (by show 1 ≤ sizeLine; decide)
  have g₄ := Grow.put (s := { s₁ with heap := h₂, toks := tk₂ + 1 }) (t := tk₂ + 1) g₃.sub' (fun b o e => Heap.get?_push_of_some (h := h₂) (lobj [Value.str (toString (valP os m : Int)) tk₂].toArray 0) e) (fresh_size _) (Heap.get?_push_size _ rfl)
  have g := g₃.trans g₄
  refine (S₂.grow g).store hj (c := .imm (.list [.str (toString (valP os m : Int))])) (show Rep _ (.list [.str (toString (valP os m : Int))]) _ from rep_list.mpr ⟨_, _, _, rfl, Store.put_self _ _ _, repL_cons.mpr ⟨_, _, rfl, rep_str.mpr ⟨_, rfl⟩, repL_nil.mpr rfl⟩⟩) fun s₅ t₅ S₅ => ?_
  rw [e1] at S₅
  have X₃ := ItAt.grow hG X₂ g
  have t := (Tr.of_grow (T := T) g).trans t₅
  have hI5 := S₅.sub
  refine h _ s₅ (R₂.tr t) S₅ ⟨X₃.b, S₅.base.2.1, X₃.hit, S₅.sub, X₃.itI, ?_, X₃.li⟩
  obtain ⟨oi, hoi, hri⟩ := X₃.at_
  exact ⟨oi, t₅.keep _ _ itT hoi, hri⟩
end

-- C44
set_option maxRecDepth 100000
theorem same_trans {a b c : Shared} (h : ∃ h t, b = { a with heap := h, toks := t }) (k : ∃ h t, c = { b with heap := h, toks := t }) : ∃ h t, c = { a with heap := h, toks := t } := by
  obtain ⟨h, t, rfl⟩ := h; obtain ⟨h', t', rfl⟩ := k; exact ⟨h', t', rfl⟩
theorem val_local {env : Env} {h : Heap} {x : Str} {v : Value} {m : Str → Option Value} (V : Val env h x v) (hk : env.kindOf x = some .local) (ns : h.Ns env.locals m) : m x = some v := by
  rcases V with ⟨_, m₂, n₂, e⟩ | ⟨q, _⟩
  · obtain ⟨o, es, ep, h1, h2, h3, h4⟩ := ns
    obtain ⟨o', es', ep', g1, g2, g3, g4⟩ := n₂
    rw [h1] at g1; cases g1
    rw [h2] at g2; cases g2
    rw [← h4, g4]; exact e
  · rw [hk] at q
    rcases q with q | ⟨q, _⟩ <;> cases q
theorem none_of {I I₀ : Store} {h : Heap} {b : Addr} (n : ∀ o, I b = some o → I₀ b = some o ∨ h.get? b = none) (h0 : I₀ b = none) (hb : h.get? b ≠ none) : I b = none := by
  cases q : I b with
  | none => rfl
  | some o => exact (n o q).elim (fun q => by rw [h0] at q; cases q) fun q => absurd q hb
theorem not_three {a b c d : Addr} (h1 : a ≠ b) (h2 : a ≠ c) (h3 : a ≠ d) : a ∉ [b, c, d] := by simp [h1, h2, h3]

section
variable {G : Gd} (hG : GOK G)
include hG
variable {sc : Scope} {A : Around} {env envL : Env} {LL : Addr} {h₀ : Heap} {T : List Addr} {I I₀ : Store} {σ : Sto} {s s₀ : Shared} {Q : Flow → Shared → Prop} {E : Value → Shared → Prop}

theorem r_try {it l : Addr} {os : List Nat} {m o : Nat} {x : Str} {oL : Obj} {p1 p2 p3 p4 p5 p6 p7 p8 p9 p10 p11 p12 p13 p14 : Pos} (oa : OkA 2 A) (eo : EnvOk sc env) (S : SIn G h₀ env T I σ s) (R : RD s₀ I₀ T I s) (X : ItAt G it l (os.map fun n : Nat => (n : Int)) h₀ m I s) (itT : it ∉ T) (itN : s₀.heap.get? it = none)
    (ht : MemI σ ("tape" : Str) (.val (.ref it))) (htl : MemI σ ("told" : Str) (.list [.str x])) (k1 : sc.names.lookup ("str" : Str) = some .globalImplicit) (k2 : sc.names.lookup ("_parse_varint" : Str) = some .globalImplicit) (k3 : sc.names.lookup ("StopIteration" : Str) = some .globalImplicit) (k4 : sc.names.lookup ("told" : Str) = some .local)
    (hm : os.length = m + 1) (hz : os[m]? = some o) (hoo : o < 256) (h6 : o / 64 % 2 = 1)
    (hfr : A.frames = some [env, envL]) (hf : env.frame = some env.locals) (hfL : envL.frame = some LL) (hkL : envL.scope.kind ≠ .module) (hL₀ : h₀.get? LL = none) (hLI : I₀ LL = none) (hLo : s₀.heap.get? LL = some oL) (hLn : ∀ vs, oL.data ≠ .fields vs) (hp : p3.endLine = p11.line)
    (h : ∀ v s' sl, (∃ h tk, s' = { s₀ with heap := h, toks := tk }) → (∀ b o, b ≠ LL → s₀.heap.get? b = some o → s'.heap.get? b = some o) → s'.heap.get? LL = some { oL with slots := sl } → Sub I s'.heap.get? → Rep I (.list [.str x]) v → Q (.ret v) s') :
    wpAny G.M A (exec (.Try [.Expr (.Call (.Attribute (.Name "told" p2) "append" p3) [.Call (.Name "str" p4) [.Call (.Name "_parse_varint" p5) [.Name "tape" p6] [] p7] [] p8] [] p11) p14]
      [.ExceptHandler (some (.Name "StopIteration" p9)) none [.Return (some (.Name "told" p10)) p12] p13] [] [] p1) env) Q E s := by
  have N := S.immN
  obtain ⟨hdt, vt, Vt, rt⟩ := N.val _ _ (mem_I htl)
  obtain ⟨al, nl, ul, rfl, hIl, rl⟩ := rep_list.mp rt
  have hol := S.sub _ _ hIl
  have hlocT := S.loc
  obtain ⟨oLs, hLT⟩ := R.old LL oL hLo
  have hLL : LL ≠ env.locals := fun q => hLT (q ▸ hlocT)
  have hIL : I LL = none := none_of (fun o' q => R.new LL o' q) hLI (by rw [hLo]; exact Option.some_ne_none _)
  obtain ⟨m', cm, ns, cl, rp, ap⟩ := id S.names
  have hkd : env.kindOf ("told" : Str) = some .local := by rw [Env.kindOf, eo.scope]; exact k4
  have hmt : m' ("told" : Str) = some (.ref al) := val_local Vt hkd ns
  -- what is not to change
  have hbase : ∀ b o, s.heap.get? b = some o → b ∉ T → b ≠ LL → b ≠ it → (hideAll s.heap [env.locals, LL, it]).get? b = some o := fun b o e h1 h2 h3 => hideAll_get _ e (not_three (fun q => h1 (q ▸ hlocT)) h2 h3)
  have h₀base : ∀ b o, h₀.get? b = some o → (hideAll s.heap [env.locals, LL, it]).get? b = some o := fun b o e => hbase b o (S.base.2.1 b o e) (fun q => by rw [S.base.2.2 b q] at e; cases e) (fun q => by subst q; rw [hL₀] at e; cases e) (fun q => by subst q; rw [X.hit] at e; cases e)
  have hff : ∀ s₁ : Shared, (∀ b o, s.heap.get? b = some o → s₁.heap.get? b = some o) → s₁.heap.FunFrames (hideAll s.heap [env.locals, LL, it]) [env, envL] := fun s₁ hk => by
    obtain ⟨o, es, ep, h1, h2, _⟩ := id ns
    refine ⟨by rw [eo.scope, eo.kind]; decide, ⟨env.locals, o, hf, hideAll_none _ (by simp), hk _ _ h1, fun vs q => by rw [h2] at q; cases q⟩, hkL, ⟨LL, oL, hfL, hideAll_none _ (by simp), hk _ _ oLs, hLn⟩, trivial⟩
  have hpe : (p3.endLine == p11.line) = true := by rw [hp]; simp
  refine wpAny_Try_except (wpAny_execs_cons (wpAny_Expr ?_ (by unfold interactive; rw [S.kind]; rfl)))
  refine method_wp rfl hpe rfl (wpAny_Name (Vt.load S.kind ?_) hdt)
  refine getMethod_list_append hol rfl rfl ?_
  refine callWith_method1 (args_cons (read_str hG oa eo S ht k1 k2 fun s₁ I₁ g₁ => ?_)) rfl rfl
  have X₁ := ItAt.grow hG X g₁
  refine pv_call_stop hG X₁ oa hm hz hoo h6 (base := hideAll s.heap [env.locals, LL, it]) hfr (hff s₁ g₁.keep) (fun b o q => g₁.keep b o (of_hideAll _ q)) (hideAll_none _ (by simp)) fun s₂ e a0 hsame₂ hfl hup => ?_
  refine wpAny_looks_onW hfr hf hfl fun h₄ hheld hup₄ => ?_
  refine wpAny_landsW hheld fun h₅ hfl₅ hup₅ => ?_
  obtain ⟨ob, hob, hobc⟩ := hfl₅.there
  refine wpAny_handleBy_builtin (X := "StopIteration") (T := "StopIteration") (b := true) stop_exc stop_nt stop_self
    (glob_at hG S.base.1 (fun b o q => hfl₅.1 b o (h₀base b o q)) rfl eo (by walk_at "m gl") k3 ⟨rfl, ⟨ob, hob, hobc⟩, ?_⟩)
  simp only [if_true]
  refine lands_againW hfl₅ fun h₆ hfl₆ hup₆ => ?_
  have upA : s.heap.UpToSlots h₆ := ((((Heap.UpToSlots.of_keeps g₁.keep).trans hup).trans hup₄).trans hup₅).trans hup₆
  refine wpAny_execs_cons (wpAny_Return_some (wpAny_Name (wpAny_loadName_local S.kind hkd (upA.ns ns) hmt ?_) hdt))
  obtain ⟨slL, hsl⟩ := upA LL oL oLs hLn
  refine h _ _ slL (same_trans (same_trans (same_trans R.same g₁.same) hsame₂) ⟨h₆, _, rfl⟩) (fun b o hb e => ?_) hsl (fun b o e => ?_) rt
  · obtain ⟨e1, e2⟩ := R.old b o e
    exact hfl₆.1 b o (hbase b o e1 e2 hb fun q => by subst q; rw [itN] at e; cases e)
  · exact hfl₆.1 b o (hbase b o (S.sub b o e) (fun q => by rw [S.out b q] at e; cases e) (fun q => by subst q; rw [hIL] at e; cases e) (fun q => by subst q; rw [X.itI] at e; cases e))
end

-- C45
set_option maxRecDepth 100000
/-! ### the octets -/
theorem fold_enc (n : Nat) : ∀ (k v : Nat), ((List.range k).reverse.map (enc n)).foldl (fun v o => v * 64 + o % 64) v = v * 64 ^ k + n % 64 ^ k
  | 0, v => by simp [Nat.mod_one]
  | k + 1, v => by
    rw [List.range_succ, List.reverse_append, List.reverse_singleton, List.singleton_append, List.map_cons, List.foldl_cons, fold_enc n k]
    have e : enc n k % 64 = n / 64 ^ k % 64 := by unfold enc; split <;> first | exact Nat.mod_mod _ _ | rw [Nat.add_mod_right, Nat.mod_mod]
    rw [e, Nat.mod_pow_succ, Nat.add_mul, Nat.pow_succ, Nat.mul_assoc, Nat.mul_comm 64 (64 ^ k), Nat.mul_comm (n / 64 ^ k % 64)]
    omega
theorem fold_mk : ∀ (os : List Nat) (v : Nat), (os.map (fun o => o + 128 * (o / 2 % 2))).foldl (fun v o => v * 64 + o % 64) v = os.foldl (fun v o => v * 64 + o % 64) v
  | [], _ => rfl
  | o :: r, v => by
    rw [List.map_cons, List.foldl_cons, List.foldl_cons]
    have : (o + 128 * (o / 2 % 2)) % 64 = o % 64 := by rw [show 128 * (o / 2 % 2) = 64 * (2 * (o / 2 % 2)) from Nat.mul_assoc 64 2 _, Nat.add_mul_mod_self_left]
    rw [this]
    exact fold_mk r _
theorem octL_len (n j : Nat) : (octL n j).length = j + 1 := by simp [octL]
theorem octL_get {n j i : Nat} (hi : i < j + 1) : (octL n j)[i]? = some (enc n (j - i)) := by
  unfold octL
  rw [List.getElem?_map, List.getElem?_reverse (by simpa using hi)]
  simp
  rw [List.getElem?_range (by omega)]
  exact ⟨_, rfl, rfl⟩
theorem enc_lt (n i : Nat) : enc n i < 128 := Nat.add_lt_add_of_lt_of_le (Nat.mod_lt _ (by decide)) (by split <;> decide : _ ≤ 64)
theorem valP_mk {n j torn : Nat} (hn : n < 64 ^ (j + 1)) : valP (mkO (octL n j) torn) (j + 1) = n := by
  unfold valP mkO
  rw [List.take_append_of_le_length (by simp [octL_len]), List.take_of_length_le (by simp [octL_len]), fold_mk]
  unfold octL
  rw [fold_enc, Nat.zero_mul, Nat.zero_add, Nat.mod_eq_of_lt hn]
theorem valP_mono (os : List Nat) : ∀ (i : Nat), valP os i ≤ valP os (i + 1) := fun i => by
  cases h : os[i]? with
  | some o => rw [valP_succ h]; omega
  | none =>
    unfold valP
    have := List.getElem?_eq_none_iff.mp h
    rw [List.take_of_length_le this, List.take_of_length_le (by omega)]; omega
theorem valP_le (os : List Nat) (m : Nat) : ∀ d j, j + d = m → valP os j ≤ valP os m
  | 0, j, h => by rw [← h]; simp
  | d + 1, j, h => Nat.le_trans (valP_mono os j) (valP_le os m d (j + 1) (by omega))
theorem mkO_len (n j torn : Nat) : (mkO (octL n j) torn).length = j + 2 := by simp [mkO, octL_len]
theorem mkO_get {n j torn i : Nat} (hi : i < j + 1) : (mkO (octL n j) torn)[i]? = some (enc n (j - i) + 128 * (enc n (j - i) / 2 % 2)) := by
  unfold mkO
  rw [List.getElem?_append_left (by simpa [octL_len] using hi), List.getElem?_map, octL_get hi]; rfl
theorem mkO_last {n j torn : Nat} : (mkO (octL n j) torn)[j + 1]? = some (64 + torn) := by
  unfold mkO
  rw [List.getElem?_append_right (by simp [octL_len])]
  simp [octL_len]
theorem mkO_lt {n j torn : Nat} (ht : torn < 64) : ∀ o ∈ mkO (octL n j) torn, o < 256 := fun o ho => by
  unfold mkO at ho
  rcases List.mem_append.mp ho with h | h
  · obtain ⟨a, ha, rfl⟩ := List.mem_map.mp h
    unfold octL at ha
    obtain ⟨i, _, rfl⟩ := List.mem_map.mp ha
    have := enc_lt n i
    omega
  · simp at h; omega
theorem cont_bits : ∀ o < 64, ((o + 0 + 128 * ((o + 0) / 2 % 2)) / 64 % 2 = 1 ↔ False) ∧ ((o + 64 + 128 * ((o + 64) / 2 % 2)) / 64 % 2 = 1 ↔ True) := by decide +kernel
theorem mkO_cont {n j torn : Nat} : ∀ i o, i < j + 1 → (mkO (octL n j) torn)[i]? = some o → decide (o / 64 % 2 = 1) = decide (i + 1 < j + 1) := fun i o hi h => by
  rw [mkO_get hi] at h
  cases h
  have hc := cont_bits (n / 64 ^ (j - i) % 64) (Nat.mod_lt _ (by decide))
  unfold enc
  apply decide_eq_decide.mpr
  by_cases hj : j - i = 0
  · rw [if_pos hj, hc.1]
    exact ⟨False.elim, fun h => absurd hj (Nat.sub_ne_zero_of_lt (Nat.lt_of_succ_lt_succ h))⟩
  · rw [if_neg hj, hc.2]
    exact ⟨fun _ => Nat.succ_lt_succ (Nat.lt_of_sub_ne_zero hj), fun _ => trivial⟩

section
variable {G : Gd} (hG : GOK G)
include hG
theorem read_spec {n torn : Nat} (hn : n < 2 ^ 36) (ht : torn < 64) {A : Around} {envL : Env} {LL : Addr} {h₀ : Heap} {I₀ : Store} {s : Shared} {oL : Obj} {vs : List Value} {K : Value → Shared → Prop} (oa : OkA 3 A) (hfr : A.frames = some [envL]) (hfL : envL.frame = some LL) (hkL : envL.scope.kind ≠ .module)
    (hB : G.B h₀) (hk₀ : ∀ b o, h₀.get? b = some o → s.heap.get? b = some o) (hL₀ : h₀.get? LL = none) (hI : Sub I₀ s.heap.get?) (hLI : I₀ LL = none) (hLo : s.heap.get? LL = some oL) (hLn : ∀ vs, oL.data ≠ .fields vs) (rl : RepL I₀ [.int n, .int torn] vs)
    (h : ∀ v s' sl I', (∃ h tk, s' = { s with heap := h, toks := tk }) → (∀ b o, b ≠ LL → s.heap.get? b = some o → s'.heap.get? b = some o) → s'.heap.get? LL = some { oL with slots := sl } → Sub I₀ I' → Sub I' s'.heap.get? → (∀ b o, I' b = some o → I₀ b = some o ∨ s.heap.get? b = none) →
      Rep I' (.list [.str (toString (n : Int))]) v → K v s') : wpAny G.M A (call (.ref 89) vs) K Bot s := by
  refine fn_enter (k := 2) (others := ["octets", "tape", "told"]) (F89 hG) (by kernel_rfl) rfl oa hB hk₀ hI rl fun env s₁ T oa' eo hf S hsame hkeep hT => ?_
  have hfr' : (A.deeper env).frames = some [env, envL] := by rw [show (A.deeper env).frames = A.frames.map (env :: ·) from rfl, hfr]; rfl
  rw [← List.take_append_drop 2 (bodyIn (KP G) 89)]
  refine wpAny_execs_append (wpAny_mono (read_pre hG (torn := torn) hn h₀ _ env T I₀ s₁ oa' eo S) (fun f s₂ p => ?_) fun _ _ x => x.elim)
  have R₁ : RD s I₀ T I₀ s₁ := ⟨hsame, fun b o e => ⟨hkeep b o e, fun q => by rw [hT b q] at e; cases e⟩, .refl _, fun _ _ e => .inl e⟩
  cases f with
  | brk => obtain ⟨_, _, _, _, _, _, _, _, p⟩ := p; cases p
  | cont => obtain ⟨_, _, _, _, _, _, _, _, p⟩ := p; cases p
  | ret v => obtain ⟨_, _, _, _, _, _, _, _, _, p⟩ := p; cases p
  | next =>
    obtain ⟨T₂, I₂, σ₂, t, S₂, j, hj1, hj2, hσ⟩ := p
    cases hσ
    have R₂ := R₁.tr t
    have hnj : n < 64 ^ (j + 1) := by
      have : n / 64 ^ j < 64 := by omega
      rw [Nat.div_lt_iff_lt_mul (Nat.pow_pos (by decide))] at this
      rw [Nat.pow_succ]; omega
    have hv := valP_mk (torn := torn) hnj
    have hs : ∀ i ≤ j + 1, valP (mkO (octL n j) torn) i < 2 ^ 60 := fun i hi => by
      have := valP_le (mkO (octL n j) torn) (j + 1) (j + 1 - i) i (by omega)
      omega
    have hlt := mkO_lt (n := n) (j := j) ht
    show wpAny G.M (A.deeper env) (execs (List.drop 2 (bodyIn (KP G) 89)) env) _ _ s₂
    conv => arg 3; arg 1; whnf
    unfold rdS at S₂
    refine wpAny_execs_cons ?_
    refine r_tape hG (os := mkO (octL n j) torn) oa' eo S₂ (UpdF.tail _ (UpdF.tail _ (UpdF.tail _ (UpdF.head _ _ _)))) (by kernel_rfl) (read_tape hG (by rw [octL_len]; omega)) (by intro _; rfl) fun it l I₃ s₃ t₃ S₃ itN X₃ itT => ?_
    have R₃ := R₂.tr t₃
    have itN' : s.heap.get? it = none := none_of_keep (fun b o e => (R₂.old b o e).1) itN
    refine wpAny_execs_cons ?_
    refine r_told hG oa' eo S₃ R₃ X₃ itT itN' (UpdF.tail _ (UpdF.tail _ (UpdF.tail _ (UpdF.tail _ (UpdF.head _ _ _))))) (.tail _ (.tail _ (.tail _ (.head _ _ _)))) (by kernel_rfl) (by kernel_rfl) (m := j + 1) ⟨by omega, by rw [mkO_len]; omega⟩ hlt mkO_cont hs fun I₄ s₄ R₄ S₄ X₄ => ?_
    rw [hv] at S₄
    refine wpAny_execs_cons ?_
    refine r_try hG oa' eo S₄ R₄ X₄ itT itN' (.tail _ (.tail _ (.tail _ (.head _ _ _)))) (.tail _ (.tail _ (.tail _ (.tail _ (.head _ _ _))))) (by kernel_rfl) (by kernel_rfl) (by kernel_rfl) (by kernel_rfl) (mkO_len _ _ _) mkO_last (by omega) (by omega) hfr' hf hfL hkL hL₀ hLI hLo hLn rfl fun v s' sl h1 h2 h3 h4 h5 => ?_
    exact h v s' sl I₄ h1 h2 h3 R₄.sub h4 R₄.new h5
end

-- C46
set_option maxRecDepth 100000
/-! ### law, up to its first test -/
noncomputable def tailZ : List Int := [0, 1, 1, 0, 1, 0, 0, 1, 0, 1]
noncomputable def lateZ (xs : List Int) : List Int := (xs.take 10).map (fun x => x.fmod 2) ++ tailZ.drop xs.length
noncomputable def bitsZ (N : Nat) : List Int := (List.range 10).map fun i => ((N / 2 ^ i % 2 : Nat) : Int)
noncomputable def topW (hi : Nat) : Str := ("0x" : Str) ++ toString (hi : Int) ++ ("00000000" : Str)
noncomputable def wordsA (N sh hi : Nat) : List Str := ((List.range 10).filter (fun p => N / 2 ^ p % 2 == 1)).map (fun p => wordP (sh + p)) ++ (if 0 < hi then [topW hi] else [])
noncomputable def lawNames : List Str := ["total", "shift", "high", "late", "number", "whole", "words", "told", "marks", "rows", "squares", "i", "j", "pairs", "cost", "due", "far", "found", "counts"]
noncomputable def lawS (xs : List Int) (T : Int) (sh hi N W : Nat) (ws : List Str) (c1 c2 c3 c4 c5 c6 c7 c8 c9 c10 c11 c12 : Cell) : Sto :=
  [("script", .imm (.list (xs.map D.int))), ("total", .imm (.int T)), ("shift", .imm (.int (sh : Nat))), ("high", .imm (.int (hi : Nat))), ("late", .imm (.list ((bitsZ N).map D.int))), ("number", .imm (.int (N : Nat))), ("whole", .imm (.int (W : Nat))), ("words", .imm (.list (ws.map D.str))),
    ("told", c1), ("marks", c2), ("rows", c3), ("squares", c4), ("i", c5), ("j", c6), ("pairs", c7), ("cost", c8), ("due", c9), ("far", c10), ("found", c11), ("counts", c12)]
theorem sl10 : ∀ n < 64, sliceRange (sliceBounds none (some 10) none n).1 (sliceBounds none (some 10) none n).2.1 (sliceBounds none (some 10) none n).2.2 = List.range (min n 10) := by decide +kernel
theorem slN : ∀ n < 64, (sliceRange (sliceBounds (some ((n : Nat) : Int)) none none 10).1 (sliceBounds (some ((n : Nat) : Int)) none none 10).2.1 (sliceBounds (some ((n : Nat) : Int)) none none 10).2.2).filterMap (tailZ[·]?) = tailZ.drop n := by decide +kernel
theorem fm_map {α β : Type} (f : α → β) (l : List α) : ∀ is : List Nat, is.filterMap ((l.map f)[·]?) = (is.filterMap (l[·]?)).map f
  | [] => rfl
  | i :: r => by
    rw [List.filterMap_cons, List.filterMap_cons, List.getElem?_map, fm_map f l r]
    cases l[i]? <;> rfl
theorem fm_range {α : Type} (l : List α) : ∀ m, (List.range m).filterMap (l[·]?) = l.take m
  | 0 => by simp
  | m + 1 => by
    rw [List.range_succ, List.filterMap_append, fm_range l m]
    cases h : l[m]? with
    | none =>
      have := List.getElem?_eq_none_iff.mp h
      rw [List.filterMap_cons, h, List.take_of_length_le this, List.take_of_length_le (by omega)]; simp
    | some a =>
      have hm := (List.getElem?_eq_some_iff.mp h).1
      rw [List.filterMap_cons, h, List.take_succ_eq_append_getElem hm]
      have : l[m] = a := by rw [List.getElem?_eq_getElem hm] at h; exact Option.some.inj h
      rw [this]; simp
theorem bits_sum : ∀ N < 1024, sumZ ((List.range 10).map fun k => ((N / 2 ^ k % 2 : Nat) : Int) * 2 ^ k) = ((N : Nat) : Int) := by decide +kernel

theorem castW (a s h : Nat) : (a : Int) * 2 ^ s + (h : Int) * 2 ^ 32 = ((a * 2 ^ s + h * 2 ^ 32 : Nat) : Int) := by
  rw [Int.natCast_add, Int.natCast_mul, Int.natCast_mul, Int.natCast_pow, Int.natCast_pow]; rfl
theorem wordsA_pos {N sh hi : Nat} (hc : 0 < hi) : (((List.range 10).filter fun p => N / 2 ^ p % 2 == 1).map (fun p => wordP (sh + p))).map D.str ++ [D.str (("0x" : Str) ++ toString (hi : Int) ++ ("00000000" : Str))] = (wordsA N sh hi).map D.str := by
  unfold wordsA topW
  rw [if_pos hc, List.map_append]; rfl
theorem wordsA_zero {N sh hi : Nat} (hc : ¬ 0 < hi) : (((List.range 10).filter fun p => N / 2 ^ p % 2 == 1).map (fun p => wordP (sh + p))).map D.str ++ [] = (wordsA N sh hi).map D.str := by
  unfold wordsA
  rw [if_neg hc, List.append_nil, List.append_nil]
section
variable {G : Gd} (hG : GOK G)
include hG
set_option maxHeartbeats 2000000 in
theorem law_pre {xs : List Int} (hx : xs.length < 64) {sh hi N W : Nat} (hN : N < 1024) (hb : lateZ xs = bitsZ N) (hsh : (sumZ xs).fmod 23 = (sh : Int)) (hhi : ((sumZ xs).fdiv 23).fmod 4 = (hi : Int)) (hsh2 : sh < 23) (hhi2 : hi < 4) (hW : W = N * 2 ^ sh + hi * 2 ^ 32) :
    SE G 4 (scopeIn (KP G) 132) (sto0 ["script"] [.list (xs.map D.int)] lawNames) ((bodyIn (KP G) 132).take 8)
      (fun o => o = .next (lawS xs (sumZ xs) sh hi N W (wordsA N sh hi) .no .no .no .no .no .no .no .no .no .no .no .no)) := by
  unfold lawNames
  ((conv => arg 5; whnf); dsimp only [sto0, List.zip, List.zipWith, List.map, List.cons_append, List.nil_append])
  show SE _ _ _ _ [_, _, _, _, _, _, _, _] _
  ((walk_at "m as0"; (repeat (walk_at "m pe"))))
  refine op_sum ?_
  (first | (refine seId ?_) | (refine stR (by walk_at "m upd") ?_))
  ((walk_at "m as0"; (repeat (walk_at "m pe"))))
  rw [hsh]
  (first | (refine seId ?_) | (refine stR (by walk_at "m upd") ?_))
  ((walk_at "m as0"; (repeat (walk_at "m pe"))))
  rw [hhi]
  (first | (refine seId ?_) | (refine stR (by walk_at "m upd") ?_))
  -- late
  walk_at "m as0"
  refine pe_binop ?_
  refine pe_comp (by kernel_rfl) (ie_list ?_) (by intro _ _; rfl)
  refine pe_slice ?_
  (repeat (walk_at "m pe"))
  refine po_none (po_some ?_)
  (repeat (walk_at "m pe"))
  refine ⟨_, .int _, .inr ⟨_, rfl, by simp; omega, ?_⟩⟩
  rw [List.length_map, sl10 _ hx, fm_map, fm_range]
  refine ⟨_, rfl, ?_⟩
  have ht : xs.take (min xs.length 10) = xs.take 10 := by
    rcases Nat.le_total xs.length 10 with h | h
    · rw [Nat.min_eq_left h, List.take_length, List.take_of_length_le h]
    · rw [Nat.min_eq_right h]
  rw [ht]
  refine CompL_fold D.int (fun _ => true) (fun x => .int (x.fmod 2)) (xs.take 10) [] (fun x hx next acc hacc hn => ?_) (by simp; omega) ?_
  · refine ⟨_, .name _ _ _, tgt_capt (by kernel_rfl), ?_⟩
    show PE _ _ _ _ _ _
    (repeat (walk_at "m pe"))
    rw [if_pos rfl] at hn
    exact ⟨hacc, hn⟩
  rw [List.nil_append, filter_t]
  refine pe_slice ?_
  (repeat (walk_at "m pe"))
  refine ⟨by simp, ?_⟩
  refine po_some ?_
  (repeat (walk_at "m pe"))
  refine op_len_list (by simp; omega) ?_
  rw [List.length_map]
  refine ⟨_, .int _, po_none (.inr ⟨_, rfl, by simp, ?_⟩)⟩
  have e10 : ([D.int 0, D.int 1, D.int 1, D.int 0, D.int 1, D.int 0, D.int 0, D.int 1, D.int 0, D.int 1] : List D) = tailZ.map D.int := rfl
  rw [e10, List.length_map, show tailZ.length = 10 from rfl, fm_map, slN _ hx]
  have hl1 : (tailZ.drop xs.length).length ≤ 10 := by rw [List.length_drop, show tailZ.length = 10 from rfl]; omega
  refine op_add_list (by rw [List.length_map, List.length_map, List.length_take]; omega) ?_
  have el : ((xs.take 10).map fun x => D.int (x.fmod 2)) ++ (tailZ.drop xs.length).map D.int = (bitsZ N).map D.int := by
    rw [← hb]; unfold lateZ; rw [List.map_append, List.map_map]; rfl
  rw [el]
  (first | (refine seId ?_) | (refine stR (by walk_at "m upd") ?_))
  have hbit : ∀ k < 10, ((bitsZ N).map D.int)[((k : Nat) : Int).toNat]? = some (.int (N / 2 ^ k % 2 : Nat)) := fun k hk => by simp [bitsZ, hk]
  -- number
  walk_at "m as0"
  walk_at "m pe"
  refine pl_cons (pe_comp (by kernel_rfl) (ie_range ?_) (by intro _ _; rfl)) (by intro _; rfl)
  (repeat (walk_at "m pe"))
  refine op_range1 ⟨_, _, rfl, by decide, ?_⟩
  refine CompL_fold (fun (k : Nat) => D.int (0 + (k : Int))) (fun _ => true) (fun k => .int (((N / 2 ^ k % 2 : Nat) : Int) * 2 ^ k)) (List.range (10 - 0 : Int).toNat) [] (fun k hk next acc hacc hn => ?_) (by simp) ?_
  · refine ⟨_, .name _ _ _, tgt_capt (by kernel_rfl), ?_⟩
    show PE _ _ _ _ _ _
    rw [if_pos rfl] at hn
    have hk10 : k < 10 := by simpa using hk
    rw [show (0 + (k : Int)) = (k : Int) by omega]
    refine pe_binop ?_
    refine pe_subscript ?_
    (repeat (walk_at "m pe"))
    refine op_item_list (by omega) (hbit k hk10) ?_
    (repeat (walk_at "m pe"))
    refine op_pow (by omega) (by omega) (by decide) ?_
    refine op_mul (mulL (by omega)) ?_
    rw [Int.toNat_natCast]
    exact ⟨hacc, hn⟩
  rw [List.nil_append, filter_t, show (10 - 0 : Int).toNat = 10 from rfl]
  (repeat (walk_at "m pe"))
  have es : ((List.range 10).map fun k => D.int (((N / 2 ^ k % 2 : Nat) : Int) * 2 ^ k)) = ((List.range 10).map fun k => (((N / 2 ^ k % 2 : Nat) : Int) * 2 ^ k)).map D.int := by rw [List.map_map]; rfl
  rw [es]
  refine op_sum ?_
  rw [bits_sum N hN]
  (first | (refine seId ?_) | (refine stR (by walk_at "m upd") ?_))
  -- whole
  walk_at "m as0"
  refine pe_binop ?_
  refine pe_binop ?_
  (repeat (walk_at "m pe"))
  refine op_pow (by omega) (by omega) (by decide) ?_
  refine op_mul (mulL (by omega)) ?_
  (repeat (walk_at "m pe"))
  refine op_pow (by omega) (by omega) (by decide) ?_
  refine op_mul (mulL (by omega)) ?_
  refine op_add ?_
  have eW : (N : Int) * 2 ^ (sh : Int).toNat + (hi : Int) * 2 ^ (32 : Int).toNat = ((W : Nat) : Int) := by
    rw [hW, Int.toNat_natCast, show (32 : Int).toNat = 32 from rfl, castW]
  rw [eW]
  (first | (refine seId ?_) | (refine stR (by walk_at "m upd") ?_))
  -- words
  refine se_cons ?_
  refine' s_comp ?u ?h1 ?h2 ?h3 (ie_range ?_) ?h4 ?h5
  case u => walk_at "m upd"
  case h1 => kernel_rfl
  case h2 => kernel_rfl
  case h3 => kernel_rfl
  case h4 => rfl
  case h5 => intro _ _; rfl
  (repeat (walk_at "m pe"))
  refine op_range1 ⟨_, _, rfl, by decide, ?_⟩
  refine CompL_fold (fun (k : Nat) => D.int (0 + (k : Int))) (fun p => N / 2 ^ p % 2 == 1) (fun p => .str (wordP (sh + p))) (List.range (10 - 0 : Int).toNat) [] (fun k hk next acc hacc hn => ?_) (by simp) ?_
  · have hk10 : k < 10 := by simpa using hk
    rw [show (0 + (k : Int)) = (k : Int) by omega]
    refine ⟨_, .name _ _ _, tgt_capt (by kernel_rfl), ?_⟩
    show TE _ _ _ _ _ _
    refine te_compare ?_ (by with_unfolding_all rfl)
    refine pe_subscript ?_
    (repeat (walk_at "m pe"))
    refine op_item_list (by omega) (hbit k hk10) ?_
    (repeat (walk_at "m pe"))
    refine ⟨_, rfl, ?_⟩
    have ec : ((((N / 2 ^ k % 2 : Nat) : Int)) == 1) = (N / 2 ^ k % 2 == 1) := by
      by_cases q : N / 2 ^ k % 2 = 1
      · rw [q]; rfl
      · have q2 : N / 2 ^ k % 2 = 0 := by omega
        rw [q2]; rfl
    rw [ec]
    cases hc : (N / 2 ^ k % 2 == 1) with
    | true =>
      rw [hc, if_pos rfl] at hn
      refine ifT rfl ?_
      (repeat (walk_at "m pe"))
      rw [show ((sh : Nat) : Int) + (k : Int) = ((sh + k : Nat) : Int) by omega]
      refine (spec_word hG (by omega) ?_).le (by omega)
      exact ⟨hacc, hn⟩
    | false =>
      rw [hc, if_neg (by decide)] at hn
      refine ifF rfl ?_
      exact hn
  rw [List.nil_append, show (10 - 0 : Int).toNat = 10 from rfl]
  (first | (refine seId ?_) | (refine stR (by walk_at "m upd") ?_))
  have ew : ((List.range 10).filter fun p => N / 2 ^ p % 2 == 1).map (fun p => D.str (wordP (sh + p))) = (((List.range 10).filter fun p => N / 2 ^ p % 2 == 1).map (fun p => wordP (sh + p))).map D.str := by rw [List.map_map]; rfl
  rw [ew]
  have hlen : (((List.range 10).filter fun p => N / 2 ^ p % 2 == 1).map (fun p => wordP (sh + p))).length ≤ 10 := by
    rw [List.length_map]; exact Nat.le_trans (List.length_filter_le _ _) (by simp)
  -- words + ..
  walk_at "m as0"
  refine pe_binop ?_
  (repeat (walk_at "m pe"))
  refine ⟨_, rfl, ifB (fun hc => ?_) fun hc => ?_⟩
  · have hc : 0 < hi := by have := of_decide_eq_true hc; omega
    (repeat (walk_at "m pe"))
    refine op_strOf ?_ ?_
    · rw [Int.natAbs_natCast]
      exact (show ∀ h < 4, Nat.log2 h < 1920 by decide) hi hhi2
    have l4 : ∀ h < 4, (("0x" : Str).length + (Str.ofString (toString ((h : Nat) : Int))).length ≤ 100) ∧ ((("0x" : Str) ++ (Str.ofString (toString ((h : Nat) : Int)))).length + ("00000000" : Str).length ≤ 100) := by decide +kernel
    refine op_add_str (by have := (l4 hi hhi2).1; exact Nat.le_trans this (by decide)) ?_
    (repeat (walk_at "m pe"))
    refine op_add_str (by have := (l4 hi hhi2).2; exact Nat.le_trans this (by decide)) ?_
    refine pl_nil ⟨by simp, ?_⟩
    refine op_add_list (by rw [List.length_map]; simp only [List.length_cons, List.length_nil]; omega) ?_
    rw [wordsA_pos hc]
    (first | (refine seId ?_) | (refine stR (by walk_at "m upd") ?_))
    exact se_nil rfl
  · have hc : ¬ 0 < hi := by have := of_decide_eq_false hc; omega
    (repeat (walk_at "m pe"))
    refine ⟨by simp, ?_⟩
    refine op_add_list (by rw [List.length_map]; simp only [List.length_nil]; omega) ?_
    rw [wordsA_zero hc]
    (first | (refine seId ?_) | (refine stR (by walk_at "m upd") ?_))
    exact se_nil rfl
end

-- C47
set_option maxRecDepth 100000
theorem se_append {G : Gd} {k : Nat} {sc : Scope} {σ : Sto} {a b : List Stmt} {Q : Out → Prop} (h : SE G k sc σ a fun o => match o with | .next σ' => SE G k sc σ' b Q | o => Q o) : SE G k sc σ (a ++ b) Q := fun h₀ A env T I s oa eo S =>
  wpAny_execs_append (wpAny_mono (h h₀ A env T I s oa eo S) (fun f s' p => by
    cases f with
    | next =>
      obtain ⟨T', I', σ', a, b, c⟩ := p
      exact wpAny_mono (c h₀ A env T' I' s' oa eo b) (fun _ _ x => .of a x) fun _ _ x => x
    | brk => exact p
    | cont => exact p
    | ret v => exact p) fun _ _ x => x)

noncomputable def winsZ (d : Nat → Nat) : Int := sumZ ((List.range 5).map fun k => ((d k : Int) - 2) * 16 ^ k)
noncomputable def sqOf (d : Nat → Nat) (p : Nat × Nat) : Int := (2 * (((d p.2 : Int) - (d p.1 : Int)).natAbs : Int)) ^ 2
noncomputable def sqZ (d : Nat → Nat) : Int := (gamesZ.map (sqOf d)).foldl (· + ·) 0
structure LawFacts (N sh hi W : Nat) (R : Nat → List Str) (d : Nat → Nat) (L : List Int × List Int) : Prop where
  w34 : W < 2 ^ 34
  sh23 : sh < 23
  j1 : JoinOk ", " (prettyL W) = true
  j2 : JoinOk ", " (wordsA N sh hi) = true
  told : Txt.join ", " (prettyL W) = if wordsA N sh hi = [] then ("0x0" : Str) else Txt.join ", " (wordsA N sh hi)
  tlen : (Txt.join ", " (prettyL W)).length ≤ 100000
  split : Txt.split (Txt.join ", " (prettyL W)) ", " = prettyL W
  r0 : R 0 = marksS.map fun m => ("." : Str) ++ m
  r1 : ∀ f < 5, SentOk (R f) (bareP (prettyL W) sh f) ((f : Int) + (sh : Int)) (R (f + 1))
  r2 : SentOk (R 5) [0, 1, 2, 3, 4] (sh : Int) (R 6)
  r6 : R 6 = (List.range 5).map fun k => rowS k (d k)
  dlt : ∀ k < 5, 2 ≤ d k ∧ d k ≤ 6
  lev : ∀ p ∈ gamesZ, ∀ z < 3, levO (rowS p.1 (d p.1)) (rowS p.2 (d p.2)) (dueZ p.1 p.2 (d p.1) (d p.2) + ((z : Nat) : Int) - 1) = some (dueZ p.1 p.2 (d p.1) (d p.2))
  loop : loopP 40 ([(N : Int)], []) = some L
  len : L.1.length < 64
  cnt : L.2.map (fun c => 40 * c) = List.replicate L.1.length (200 - sqZ d)
  rlen : (roundsP (winsZ d)).length < 64
  perm : L.1.Perm (roundsP (winsZ d))

theorem row_make : ∀ k < 5, ∀ d < 7, Txt.mul "." ((d : Nat) : Int) ++ marksS.getD k "" = rowS k d := by decide +kernel
theorem row_len : ∀ k < 5, ∀ d < 7, (rowS k d).length = d + 2 := by decide +kernel
theorem mark_len : ∀ k < 5, (marksS.getD k "").length = 2 := by decide +kernel
theorem dot_len : ("." : Str).length = 1 := by decide +kernel
theorem mul_len : ∀ d < 7, (Txt.mul "." ((d : Nat) : Int)).length ≤ 10 := by decide +kernel
noncomputable def lawR (d : Nat → Nat) : List Str := (List.range 5).map fun k => rowS k (d k)

section
variable {G : Gd} (hG : GOK G)
include hG
set_option maxHeartbeats 2000000 in
theorem law_b1 {xs : List Int} {T : Int} {N sh hi W : Nat} {R : Nat → List Str} {d : Nat → Nat} {L : List Int × List Int} (F : LawFacts N sh hi W R d L) {c1 c2 c3 c4 c5 c6 c7 c8 c9 c10 c11 c12 : Cell} :
    SE G 4 (scopeIn (KP G) 132) (lawS xs T sh hi N W (wordsA N sh hi) c1 c2 c3 c4 c5 c6 c7 c8 c9 c10 c11 c12) (((bodyIn (KP G) 132).drop 9).take 5)
      (fun o => o = .next (lawS xs T sh hi N W (wordsA N sh hi) (.imm (.str (Txt.join ", " (prettyL W)))) (.imm (.list (marksS.map D.str))) (.imm (.list ((lawR d).map D.str))) c4 c5 c6 c7 c8 c9 c10 c11 c12)) := by
  unfold lawS
  conv => arg 5; whnf
  show SE _ _ _ _ [_, _, _, _, _] _
  ((walk_at "m as0"; (repeat (walk_at "m pe"))))
  refine (spec_pretty hG F.w34 F.j1 ?_).le (by omega)
  (first | (refine seId ?_) | (refine stR (by walk_at "m upd") ?_))
  -- told
  have told : Txt.join ", " (prettyL W) = if wordsA N sh hi = [] then ("0x0" : Str) else Txt.join ", " (wordsA N sh hi) := F.told
  refine se_if (TE.det (c := false) ?_ (ifF rfl ?_))
  · refine te_compare ?_ (by with_unfolding_all rfl)
    walk_at "m pe"
    refine pe_ifexp ?_
    refine te_compare ?_ (by with_unfolding_all rfl)
    (repeat (walk_at "m pe"))
    refine ⟨by simp, ?_⟩
    by_cases hw : wordsA N sh hi = []
    · rw [if_pos hw] at told
      rw [hw]
      refine op_ne_list (l := []) rfl ⟨_, rfl, ?_⟩
      refine ifF rfl ?_
      (repeat (walk_at "m pe"))
      refine op_ne_str ?_
      rw [told]
      exact ⟨_, rfl, by decide +kernel⟩
    · rw [if_neg hw] at told
      have hlen : ((wordsA N sh hi).map D.str).length ≠ ([] : List D).length := by
        intro q; rw [List.length_map] at q; exact hw (List.length_eq_zero_iff.mp q)
      refine op_ne_lens hlen ⟨_, rfl, ?_⟩
      refine ifT rfl ?_
      refine pe_method ?_
      walk_at "m pe"
      refine ⟨_, meth_str PySem.F.slot_str_join PySem.F.type_str_join, ?_⟩
      (repeat (walk_at "m pe"))
      refine op_join F.j2 ?_
      refine op_ne_str ?_
      rw [told]
      exact ⟨_, rfl, by simp⟩
  (first | (refine se_nilS ?_) | (refine se_nil (seId ?_)))
  -- marks
  ((walk_at "m as0"; (repeat (walk_at "m pe"))))
  refine ⟨by simp, ?_⟩
  (first | (refine seId ?_) | (refine stR (by walk_at "m upd") ?_))
  -- rows
  walk_at "m as0"
  walk_at "m pe"
  refine pl_cons (pe_comp (by kernel_rfl) (ie_list ?_) (by intro _ _; rfl)) (by intro _; rfl)
  (repeat (walk_at "m pe"))
  refine ⟨_, rfl, ?_⟩
  refine CompL_fold (f := D.str) (p := fun _ => true) (g := fun m => .str (("." : Str) ++ m)) marksS [] (fun m hm next acc hacc hn => ?_) (by decide) ?_
  · refine ⟨_, .name _ _ _, tgt_capt (by kernel_rfl), ?_⟩
    show PE _ _ _ _ _ _
    rw [if_pos rfl] at hn
    (repeat (walk_at "m pe"))
    have hml : ∀ m ∈ marksS, ("." : Str).length + m.length ≤ 100 := by decide +kernel
    refine op_add_str (Nat.le_trans (hml m hm) (by decide)) ?_
    exact ⟨hacc, hn⟩
  rw [List.nil_append, filter_t]
  have er : marksS.map (fun m => D.str (("." : Str) ++ m)) = (R 0).map D.str := by rw [F.r0, List.map_map]; rfl
  rw [er]
  refine pl_cons ?_ (by intro _; rfl)
  refine pe_method ?_
  walk_at "m pe"
  refine ⟨_, meth_str PySem.F.slot_str_split PySem.F.type_str_split, ?_⟩
  (repeat (walk_at "m pe"))
  refine op_split (by decide +kernel) F.tlen ?_
  rw [F.split]
  (repeat (walk_at "m pe"))
  refine spec_played hG F.sh23 F.r1 F.r2 ?_
  rw [F.r6]
  (first | (refine seId ?_) | (refine stR (by walk_at "m upd") ?_))
  -- the rows' test
  have hrow : ∀ k < 5, (((List.range 5).map fun k => rowS k (d k)).map D.str)[((k : Nat) : Int).toNat]? = some (.str (rowS k (d k))) := fun k hk => by simp [hk]
  have hmark : ∀ k < 5, (marksS.map D.str)[((k : Nat) : Int).toNat]? = some (.str (marksS.getD k "")) := fun k hk => by
    rw [Int.toNat_natCast, List.getElem?_map, List.getD_eq_getElem?_getD]
    have : k < marksS.length := hk
    rw [List.getElem?_eq_getElem this]; rfl
  refine se_if (TE.det (c := false) ?_ (ifF rfl ?_))
  · refine te_compare ?_ (by with_unfolding_all rfl)
    walk_at "m pe"
    refine pe_comp (by kernel_rfl) (ie_range ?_) (by intro _ _; rfl)
    (repeat (walk_at "m pe"))
    refine op_range1 ⟨_, _, rfl, by decide, ?_⟩
    refine CompL_fold (fun (k : Nat) => D.int (0 + (k : Int))) (fun _ => true) (fun k => .str (rowS k (d k))) (List.range (5 - 0 : Int).toNat) [] (fun k hk next acc hacc hn => ?_) (by simp) ?_
    · refine ⟨_, .name _ _ _, tgt_capt (by kernel_rfl), ?_⟩
      show PE _ _ _ _ _ _
      rw [if_pos rfl] at hn
      have hk5 : k < 5 := by simpa using hk
      have hd := F.dlt k hk5
      rw [show (0 + (k : Int)) = (k : Int) by omega]
      refine pe_binop ?_
      refine pe_binop ?_
      (repeat (walk_at "m pe"))
      refine op_item_list (by omega) (hrow k hk5) ?_
      (repeat (walk_at "m pe"))
      refine op_len_str (by rw [row_len k hk5 (d k) (by omega)]; omega) ?_
      rw [row_len k hk5 (d k) (by omega)]
      (repeat (walk_at "m pe"))
      rw [show ((d k + 2 : Nat) : Int) - 2 = ((d k : Nat) : Int) by omega]
      refine op_mul_str (by omega) (by omega) (by rw [dot_len]; decide) ?_
      (repeat (walk_at "m pe"))
      refine op_item_list (by omega) (hmark k hk5) ?_
      refine op_add_str (by have := mul_len (d k) (by omega); rw [mark_len k hk5]; omega) ?_
      rw [row_make k hk5 (d k) (by omega)]
      exact ⟨hacc, hn⟩
    rw [List.nil_append, filter_t, show (5 - 0 : Int).toNat = 5 from rfl]
    have e5 : (List.range 5).map (fun k => D.str (rowS k (d k))) = ((List.range 5).map fun k => rowS k (d k)).map D.str := by rw [List.map_map]; rfl
    rw [e5]
    refine op_ne_list rfl ⟨_, rfl, rfl⟩
  (first | (refine se_nilS ?_) | (refine se_nil (seId ?_)))
  exact se_nil rfl
end

-- C48
set_option maxRecDepth 100000
/-- a comprehension of two «for»s over what is known -/
theorem CompO_fold {G : Gd} {k : Nat} {sc : Scope} {ρ : List (Str × D)} {t₁ t₂ i₂ elt : Expr} {f₁ f₂ : List Expr} {K : List D → Prop} {α : Type} (f : α → D) (g : α → List D) :
    ∀ (items : List α) (acc : List D), (∀ a ∈ items, ∀ (next : List D → Prop) acc, acc.length < 1000 → next (acc ++ g a) → stepO G k sc ρ t₁ f₁ t₂ i₂ f₂ elt (f a) next acc) → (∀ a ∈ items, (g a).length ≤ 10) →
      10 * items.length + acc.length < 1000 → K (acc ++ items.flatMap g) → CompO G k sc ρ t₁ f₁ t₂ i₂ f₂ elt K (items.map f) acc
  | [], acc, _, _, _, hK => by simpa [CompO] using hK
  | a :: r, acc, hs, hg, hl, hK => by
    show stepO G k sc ρ t₁ f₁ t₂ i₂ f₂ elt (f a) (CompO G k sc ρ t₁ f₁ t₂ i₂ f₂ elt K (r.map f)) acc
    have h1 := hg a (.head _)
    refine hs a (.head _) _ acc (by simp at hl; omega) ?_
    refine CompO_fold f g r (acc ++ g a) (fun b hb => hs b (.tail _ hb)) (fun b hb => hg b (.tail _ hb)) (by simp at hl ⊢; omega) ?_
    simpa [List.flatMap_cons] using hK

noncomputable def pairD (p : Nat × Nat) : D := .tup [.int (p.1 : Nat), .int (p.2 : Nat)]
noncomputable def zipP (x y : Str) : List (Str × Str) := List.zipWith (fun c d => ((⟨#[c]⟩ : Str), (⟨#[d]⟩ : Str))) x.cps.toList y.cps.toList
theorem zipD_eq (x y : Str) : zipD x y = (zipP x y).map fun p => D.tup [.str p.1, .str p.2] := by
  unfold zipD zipP
  rw [List.map_zipWith]
theorem zip_cost : ∀ p ∈ gamesZ, sumZ ((zipP (marksS.getD p.1 "") (marksS.getD p.2 "")).map fun q => costP q.1 q.2) = costZ p.1 p.2 := by decide +kernel
theorem zip_small : ∀ p ∈ gamesZ, (zipP (marksS.getD p.1 "") (marksS.getD p.2 "")).length ≤ 10 := by decide +kernel
theorem zipP_len {x y : Str} : ∀ q ∈ zipP x y, q.1.length = 1 ∧ q.2.length = 1 := fun q hq => by
  unfold zipP at hq
  obtain ⟨i, hi, e⟩ := List.getElem_of_mem hq
  rw [List.getElem_zipWith] at e
  rw [← e]
  exact ⟨rfl, rfl⟩
theorem mark_asc : ∀ k < 5, (marksS.getD k "").cps.all (· < 128) = true ∧ (marksS.getD k "").cps.size = 2 := by decide +kernel
theorem games_lt : ∀ p ∈ gamesZ, p.1 < 5 ∧ p.2 < 5 := by decide +kernel
theorem cost_bd : ∀ p ∈ gamesZ, 0 ≤ costZ p.1 p.2 ∧ costZ p.1 p.2 ≤ 4 := by decide +kernel
theorem cell_eq {x : Str} {d d' : D} {r : Sto} (h : d = d') : ((x, Cell.imm d) :: r : Sto) = (x, Cell.imm d') :: r := by rw [h]

theorem zip_sum : ∀ p ∈ gamesZ, ∃ ns : List Int, ([] : List D) ++ ((zipP (marksS.getD p.1 "") (marksS.getD p.2 "")).filter fun _ => true).map (fun q => D.int (costP q.1 q.2)) = ns.map D.int ∧ sumZ ns = costZ p.1 p.2 := fun p hp =>
  ⟨(zipP (marksS.getD p.1 "") (marksS.getD p.2 "")).map fun q => costP q.1 q.2, by rw [List.nil_append, filter_t, List.map_map]; rfl, zip_cost p hp⟩
theorem op_sumE {G : Gd} {k : Nat} {Q : D → Prop} {ds : List D} {z : Int} (e : ∃ ns : List Int, ds = ns.map D.int ∧ sumZ ns = z) (h : Q (.int z)) : OpL G k (fun vs => call (.builtin "sum") vs) [.list ds] Q := by
  obtain ⟨ns, rfl, rfl⟩ := e; exact op_sum h
theorem op_len_strE {G : Gd} {k : Nat} {Q : D → Prop} {x : Str} {n : Nat} (e : x.length = n) (hl : n ≤ 1000000) (h : Q (.int n)) : OpL G k (fun vs => call (.builtin "len") vs) [.str x] Q := by subst e; exact op_len_str hl h
theorem op_absE {G : Gd} {k : Nat} {Q : D → Prop} {a z : Int} (e : (if a < 0 then -a else a) = z) (h : Q (.int z)) : OpL G k (fun vs => call (.builtin "abs") vs) [.int a] Q := by subst e; exact op_abs h
theorem op_powE {G : Gd} {k : Nat} {Q : D → Prop} {a a' b : Int} (e : a = a') (hn : 0 ≤ b) (hn2 : b ≤ 1000000) (ha : a'.natAbs < 2 ^ 64) (h : Q (.int (a' ^ b.toNat))) : Op2 G k (binaryOp .Pow) (.int a) (.int b) Q := by subst e; exact op_pow hn hn2 ha h
theorem abs_two (x y : Nat) : (if ((x + 2 : Nat) : Int) - ((y + 2 : Nat) : Int) < 0 then -(((x + 2 : Nat) : Int) - ((y + 2 : Nat) : Int)) else ((x + 2 : Nat) : Int) - ((y + 2 : Nat) : Int)) = (((x : Int) - (y : Int)).natAbs : Int) := by split <;> omega
theorem toNat_5 : ∀ i : Nat, i < 5 → ((5 : Int) - ((i : Int) + 1)).toNat = 4 - i := by decide +kernel
theorem le_mil {x m : Nat} (h : x ≤ m) (hm : m ≤ 1000000 := by decide) : x ≤ 1000000 := Nat.le_trans h hm
theorem sq_small {x y : Nat} (hx : 2 ≤ x ∧ x ≤ 6) (hy : 2 ≤ y ∧ y ≤ 6) : (2 * (((x : Int) - (y : Int)).natAbs : Int)).natAbs < 2 ^ 64 := by omega
theorem lev_at {N sh hi W : Nat} {R : Nat → List Str} {d : Nat → Nat} {L : List Int × List Int} (F : LawFacts N sh hi W R d L) (p : Nat × Nat) (hp : p ∈ gamesZ) (T : Int) :
    levO (rowS p.1 (d p.1)) (rowS p.2 (d p.2)) (dueZ p.1 p.2 (d p.1) (d p.2) + ((p.1 : Int) + (p.2 : Int) + T).fmod 3 - 1) = some (dueZ p.1 p.2 (d p.1) (d p.2)) := by
  have hz0 : 0 ≤ ((p.1 : Int) + (p.2 : Int) + T).fmod 3 ∧ ((p.1 : Int) + (p.2 : Int) + T).fmod 3 < 3 := by
    rw [Int.fmod_eq_emod_of_nonneg _ (by decide)]
    exact ⟨Int.emod_nonneg _ (by decide), Int.emod_lt_of_pos _ (by decide)⟩
  have := F.lev p hp (((p.1 : Int) + (p.2 : Int) + T).fmod 3).toNat (by omega)
  rwa [Int.toNat_of_nonneg hz0.1] at this

section
variable {G : Gd} (hG : GOK G)
include hG
set_option maxHeartbeats 4000000 in
theorem law_b2 {xs : List Int} {T : Int} {N sh hi W : Nat} {R : Nat → List Str} {d : Nat → Nat} {L : List Int × List Int} (F : LawFacts N sh hi W R d L) {ws : List Str} {c1 c4 c5 c6 c7 c8 c9 c10 c11 c12 : Cell} :
    SE G 4 (scopeIn (KP G) 132) (lawS xs T sh hi N W ws c1 (.imm (.list (marksS.map D.str))) (.imm (.list ((lawR d).map D.str))) c4 c5 c6 c7 c8 c9 c10 c11 c12) (((bodyIn (KP G) 132).drop 14).take 3)
      (fun o => ∃ c5 c6 c7 c8 c9 c10, o = .next (lawS xs T sh hi N W ws c1 (.imm (.list (marksS.map D.str))) (.imm (.list ((lawR d).map D.str))) (.imm (.int (sqZ d))) c5 c6 c7 c8 c9 c10 c11 c12)) := by
  unfold lawS
  conv => arg 5; whnf
  show SE _ _ _ _ [_, _, _] _
  ((walk_at "m as0"; (repeat (walk_at "m pe"))))
  (first | (refine seId ?_) | (refine stR (by walk_at "m upd") ?_))
  -- pairs
  refine se_cons ?_
  refine' s_comp2 ?u ?h1 ?h2 ?h3 (ie_range ?_) ?h4 ?h5 ?h6
  case u => walk_at "m upd"
  case h1 => kernel_rfl
  case h2 => kernel_rfl
  case h3 => kernel_rfl
  case h4 => rfl
  case h5 => intro _ _; rfl
  case h6 => intro _ _; rfl
  (repeat (walk_at "m pe"))
  refine op_range1 ⟨_, _, rfl, by decide, ?_⟩
  refine CompO_fold (fun (k : Nat) => D.int (0 + (k : Int))) (fun i => (List.range (4 - i)).map fun j => pairD (i, i + 1 + j)) (List.range (5 - 0 : Int).toNat) [] (fun i hi next acc hacc hn => ?_) (fun i hi => by simp; omega) (by simp) ?_
  · have hi5 : i < 5 := by simpa using hi
    rw [Int.zero_add]
    refine ⟨_, .name _ _ _, tgt_capt (by kernel_rfl), ?_⟩
    show IE _ _ _ _ _ _
    refine ie_range ?_
    (repeat (walk_at "m pe"))
    refine op_range2 ⟨_, _, rfl, by omega, ?_⟩
    rw [(toNat_5 : ∀ i < 5, _) i hi5]
    refine CompL_fold (fun (j : Nat) => D.int ((i : Int) + 1 + (j : Int))) (fun _ => true) (fun j => pairD (i, i + 1 + j)) (List.range (4 - i)) acc (fun j hj next acc hacc hn => ?_) (by simp; omega) (by rw [filter_t]; exact hn)
    refine ⟨_, .name _ _ _, tgt_capt2 (by kernel_rfl), ?_⟩
    show PE _ _ _ _ _ _
    rw [if_pos rfl] at hn
    (repeat (walk_at "m pe"))
    refine ⟨by simp, hacc, ?_⟩
    rw [show (i : Int) + 1 + (j : Int) = ((i + 1 + j : Nat) : Int) from rfl]
    exact hn
  rw [List.nil_append, show (5 - 0 : Int).toNat = 5 from rfl]
  have eg : ((List.range 5).flatMap fun i => (List.range (4 - i)).map fun j => pairD (i, i + 1 + j)) = gamesZ.map pairD := by kernel_rfl
  rw [eg]
  (first | (refine seId ?_) | (refine stR (by walk_at "m upd") ?_))
  -- the loop
  ((refine se_for (by intro _ _; rfl) ?_))
  refine ie_list ?_
  (repeat (walk_at "m pe"))
  refine ⟨_, rfl, ?_⟩
  have hrow : ∀ k < 5, (((lawR d).map D.str))[((k : Nat) : Int).toNat]? = some (.str (rowS k (d k))) := fun k hk => by simp [lawR, hk]
  have hmark : ∀ k < 5, (marksS.map D.str)[((k : Nat) : Int).toNat]? = some (.str (marksS.getD k "")) := fun k hk => by
    rw [Int.toNat_natCast, List.getElem?_map, List.getD_eq_getElem?_getD]
    have : k < marksS.length := hk
    rw [List.getElem?_eq_getElem this]; rfl
  refine ForL_map pairD (fun rest σ => ∃ sq, ∃ cs : Nat → Cell, (∀ p ∈ rest, p ∈ gamesZ) ∧ (rest.map (sqOf d)).foldl (· + ·) sq = sqZ d ∧ σ = lawS xs T sh hi N W ws c1 (.imm (.list (marksS.map D.str))) (.imm (.list ((lawR d).map D.str))) (.imm (.int sq)) (cs 0) (cs 1) (.imm (.list (gamesZ.map pairD))) (cs 2) (cs 3) (cs 4) c11 c12)
    (fun p rest σ hI K hK => ?_) (fun σ hI => ?_) gamesZ ⟨0, cf [_, _, _, _, _], fun p hp => hp, rfl, rfl⟩
  · obtain ⟨sq, cs, e2, e3, rfl⟩ := hI
    have hp := e2 p (.head _)
    obtain ⟨h1, h2⟩ := games_lt p hp
    obtain ⟨b1, b2⟩ := cost_bd p hp
    have d1 := F.dlt p.1 h1
    have d2 := F.dlt p.2 h2
    have l1 := row_len p.1 h1 (d p.1) (Nat.lt_succ_of_le d1.2)
    have l2 := row_len p.2 h2 (d p.2) (Nat.lt_succ_of_le d2.2)
    have hlev := lev_at F p hp T
    unfold lawS
    refine ae_pair (IsSeq.tup _) ?_
    ((refine ae_nm (by walk_at "m upd") ?_))
    ((refine ae_nm (by walk_at "m upd") ?_))
    (first | (refine seId ?_) | (refine stR (by walk_at "m upd") ?_))
    -- cost
    walk_at "m as0"
    walk_at "m pe"
    refine pl_cons (pe_compZ (by kernel_rfl) (by walk_at "m gl") (by kernel_rfl) ?_ (by intro _ _; rfl) (by intro _ _; rfl)) (by intro _; rfl)
    refine pl_cons ?_ (by intro _; rfl)
    refine pe_subscript ?_
    (repeat (walk_at "m pe"))
    refine op_item_list (ixN h1) (hmark p.1 h1) ?_
    refine pl_cons ?_ (by intro _; rfl)
    refine pe_subscript ?_
    (repeat (walk_at "m pe"))
    refine op_item_list (ixN h2) (hmark p.2 h2) ?_
    refine pl_nil ⟨_, _, rfl, (mark_asc p.1 h1).1, (mark_asc p.2 h2).1, by rw [(mark_asc p.1 h1).2, (mark_asc p.2 h2).2]; exact Nat.le_refl _, ?_⟩
    rw [zipD_eq]
    refine CompL_fold (f := fun q : Str × Str => D.tup [.str q.1, .str q.2]) (p := fun _ => true) (g := fun q => .int (costP q.1 q.2)) _ [] (fun q hq next acc hacc hn => ?_) (Nat.lt_of_le_of_lt (zip_small p hp) (by decide)) ?_
    · obtain ⟨q1, q2⟩ := zipP_len q hq
      refine ⟨_, .pair _ _ _ _ _ _ (IsSeq.tup _), tgt_capt (by kernel_rfl), ?_⟩
      show PE _ _ _ _ _ _
      rw [if_pos rfl] at hn
      unfold costP at hn
      refine pe_ifexp ?_
      (repeat (walk_at "m pe"))
      refine ⟨_, rfl, ifB (fun hc => ?_) fun hc => ?_⟩
      · rw [if_pos hc] at hn
        (repeat (walk_at "m pe"))
        exact ⟨hacc, hn⟩
      · rw [if_neg (by rw [hc]; decide)] at hn
        refine pe_ifexp ?_
        refine te_compare ?_ (by with_unfolding_all rfl)
        refine pe_method ?_
        walk_at "m pe"
        refine ⟨_, meth_str PySem.F.slot_str_lower PySem.F.type_str_lower, ?_⟩
        walk_at "m pe"
        refine op_lower (by first | rw [q1]; decide | rw [q2]; decide) ?_
        refine pe_method ?_
        walk_at "m pe"
        refine ⟨_, meth_str PySem.F.slot_str_lower PySem.F.type_str_lower, ?_⟩
        walk_at "m pe"
        refine op_lower (by first | rw [q1]; decide | rw [q2]; decide) ?_
        refine op_eq_str ⟨_, rfl, ifB (fun hc => ?_) fun hc => ?_⟩
        · rw [if_pos hc] at hn
          (repeat (walk_at "m pe"))
          exact ⟨hacc, hn⟩
        · rw [if_neg (by rw [hc]; decide)] at hn
          (repeat (walk_at "m pe"))
          exact ⟨hacc, hn⟩
    (repeat (walk_at "m pe"))
    refine op_sumE (zip_sum p hp) ?_
    (first | (refine seId ?_) | (refine stR (by walk_at "m upd") ?_))
    -- due
    walk_at "m as0"
    refine pe_binop ?_
    refine pe_binop ?_
    walk_at "m pe"
    walk_at "m pe"
    refine pl_cons ?_ (by intro _; rfl)
    refine pe_binop ?_
    (repeat (walk_at "m pe"))
    refine op_item_list (ixN h2) (hrow p.2 h2) ?_
    (repeat (walk_at "m pe"))
    refine op_len_strE l2 (le_mil (Nat.add_le_add_right d2.2 2)) ?_
    (repeat (walk_at "m pe"))
    refine op_item_list (ixN h1) (hrow p.1 h1) ?_
    (repeat (walk_at "m pe"))
    refine op_len_strE l1 (le_mil (Nat.add_le_add_right d1.2 2)) ?_
    (repeat (walk_at "m pe"))
    refine op_absE (abs_two (d p.2) (d p.1)) ?_
    refine op_mul (mulL (by decide)) ?_
    (repeat (walk_at "m pe"))
    (first | (refine seId ?_) | (refine stR (by walk_at "m upd") ?_))
    -- far
    walk_at "m as0"
    walk_at "m pe"
    refine pl_cons ?_ (by intro _; rfl)
    refine pe_subscript ?_
    (repeat (walk_at "m pe"))
    refine op_item_list (ixN h1) (hrow p.1 h1) ?_
    refine pl_cons ?_ (by intro _; rfl)
    refine pe_subscript ?_
    (repeat (walk_at "m pe"))
    refine op_item_list (ixN h2) (hrow p.2 h2) ?_
    (repeat (walk_at "m pe"))
    refine (spec_lev hG (by rw [l1]; exact Nat.le_trans (Nat.add_le_add_right d1.2 2) (by decide)) (by rw [l2]; exact Nat.le_trans (Nat.add_le_add_right d2.2 2) (by decide)) hlev ?_).le (by decide)
    (first | (refine seId ?_) | (refine stR (by walk_at "m upd") ?_))
    -- the test
    refine se_if (TE.det (c := false) ?_ (ifF rfl ?_))
    · refine te_or ?_
      refine te_compare ?_ (by with_unfolding_all rfl)
      walk_at "m pe"
      walk_at "m pe"
      refine op_ne ⟨_, rfl, ifF (by unfold dueZ; simp) ?_⟩
      refine te_or ?_
      refine te_plain ?_ (by intro _ _; rfl)
      (repeat (walk_at "m pe"))
      refine op_isi_bool (ob_bool ?_)
      refine ifF rfl ?_
      refine te_or ?_
      refine te_not ?_
      refine te_plain ?_ (by intro _ _; rfl)
      (repeat (walk_at "m pe"))
      refine op_isi_int (ob_bool ?_)
      refine ifF rfl ?_
      exact te_or_nil rfl
    (first | (refine se_nilS ?_) | (refine se_nil (seId ?_)))
    -- squares
    walk_at "m as0"
    refine pe_binop ?_
    walk_at "m pe"
    refine pe_binop ?_
    (repeat (walk_at "m pe"))
    refine op_powE (a' := 2 * (((d p.2 : Int) - (d p.1 : Int)).natAbs : Int)) (Int.add_sub_cancel _ _) (by decide) (by decide) (sq_small d2 d1) ?_
    (repeat (walk_at "m pe"))
    refine se_nil (hK _ ⟨_, cf [_, _, _, _, _], fun q hq => e2 q (.tail _ hq), ?_, rfl⟩)
    rw [← e3, List.map_cons, List.foldl_cons]
    rfl
  · obtain ⟨sq, cs, e2, e3, rfl⟩ := hI
    have : sq = sqZ d := e3
    subst this
    exact se_nil (se_nil ⟨_, _, _, _, _, _, rfl⟩)
end

-- C49
set_option maxRecDepth 100000
theorem sorted_unique {a b : List Int} (h : a.Perm b) (ha : a.Pairwise (· ≤ ·)) (hb : b.Pairwise (· ≤ ·)) : a = b :=
  List.Perm.eq_of_pairwise (fun a b _ _ h1 h2 => Int.le_antisymm h1 h2) ha hb h
theorem scal_ints : ∀ l : List Int, scalL (l.map D.int) = true
  | [] => rfl
  | _ :: r => scal_ints r
theorem flat_rep (n : Nat) (z : Int) : (List.replicate n [D.int z]).flatten = (List.replicate n z).map D.int := by
  induction n with
  | zero => rfl
  | succ n ih => rw [List.replicate_succ, List.replicate_succ, List.flatten_cons, ih]; rfl

theorem sub_small {x : Nat} (h : 2 ≤ x ∧ x ≤ 6) : (((x + 2 : Nat) : Int) - 4).natAbs < 2 ^ 64 := by omega
theorem sub_four (x : Nat) : ((x + 2 : Nat) : Int) - 4 = (x : Int) - 2 := by omega
section
variable {G : Gd} (hG : GOK G)
include hG
set_option maxHeartbeats 4000000 in
theorem law_b3 {xs : List Int} {T : Int} {N sh hi W : Nat} {R : Nat → List Str} {d : Nat → Nat} {L : List Int × List Int} (F : LawFacts N sh hi W R d L) {ws : List Str} {x1 x2 : D} {c5 c6 c7 c8 c9 c10 c11 c12 : Cell} :
    SE G 4 (scopeIn (KP G) 132) (lawS xs T sh hi N W ws (.imm x1) (.imm x2) (.imm (.list ((lawR d).map D.str))) (.imm (.int (sqZ d))) c5 c6 c7 c8 c9 c10 c11 c12) ((bodyIn (KP G) 132).drop 17)
      (fun o => o = .ret (.bool true)) := by
  unfold lawS
  conv => arg 5; whnf
  show SE _ _ _ _ [_, _, _] _
  refine se_cons (s_assign_pair ?_ (by intro _; rfl) (by intro _; rfl))
  (repeat (walk_at "m pe"))
  refine (spec_turned hG F.loop F.len (fun ns p1 p2 => ?_)).le (by omega)
  have hlen : ns.length = L.1.length := p1.length_eq
  refine ae_pair (IsSeq.list _) ?_
  ((refine ae_nm (by walk_at "m upd") ?_))
  ((refine ae_nm (by walk_at "m upd") ?_))
  (first | (refine seId ?_) | (refine stR (by walk_at "m upd") ?_))
  have hns := F.len
  refine se_if (TE.det (c := false) ?_ (ifF rfl ?_))
  · refine te_compare ?_ (by with_unfolding_all rfl)
    refine pe_comp (by kernel_rfl) (ie_list ?_) (by intro _ _; rfl)
    (repeat (walk_at "m pe"))
    refine ⟨_, rfl, ?_⟩
    have hcl : L.2.length = L.1.length := by
      have := congrArg List.length F.cnt
      simpa using this
    refine CompL_fold D.int (fun _ => true) (fun c => .int (40 * c)) L.2 [] (fun c hc next acc hacc hn => ?_) (by simp; omega) ?_
    · refine ⟨_, .name _ _ _, tgt_capt (by kernel_rfl), ?_⟩
      show PE _ _ _ _ _ _
      rw [if_pos rfl] at hn
      (repeat (walk_at "m pe"))
      exact ⟨hacc, hn⟩
    rw [List.nil_append, filter_t]
    have e1 : L.2.map (fun c => D.int (40 * c)) = (L.2.map fun c => 40 * c).map D.int := by rw [List.map_map]; rfl
    rw [e1, F.cnt]
    refine pe_binop ?_
    (repeat (walk_at "m pe"))
    refine ⟨by simp, ?_⟩
    (repeat (walk_at "m pe"))
    refine op_len_list (by simp; omega) ?_
    rw [List.length_map, hlen]
    refine op_mul_list (by omega) (by simp; omega) (by omega) ?_
    rw [Int.toNat_natCast, flat_rep]
    exact op_ne_list (scal_ints _) ⟨_, rfl, rfl⟩
  (first | (refine se_nilS ?_) | (refine se_nil (seId ?_)))
  -- the end
  have hrow : ∀ k < 5, (((lawR d).map D.str))[((k : Nat) : Int).toNat]? = some (.str (rowS k (d k))) := fun k hk => by simp [lawR, hk]
  (with_reducible refine se_cons ?_)
  refine s_return ?_
  refine pe_compare ?_ (by with_unfolding_all rfl)
  walk_at "m pe"
  walk_at "m pe"
  refine pl_cons ?_ (by intro _; rfl)
  walk_at "m pe"
  refine pl_cons (pe_comp (by kernel_rfl) (ie_range ?_) (by intro _ _; rfl)) (by intro _; rfl)
  (repeat (walk_at "m pe"))
  refine op_range1 ⟨_, _, rfl, by decide, ?_⟩
  refine CompL_fold (fun (k : Nat) => D.int (0 + (k : Int))) (fun _ => true) (fun k => .int (((d k : Int) - 2) * 16 ^ k)) (List.range (5 - 0 : Int).toNat) [] (fun k hk next acc hacc hn => ?_) (by simp) ?_
  · refine ⟨_, .name _ _ _, tgt_capt (by kernel_rfl), ?_⟩
    show PE _ _ _ _ _ _
    rw [if_pos rfl] at hn
    have hk5 : k < 5 := by simpa using hk
    have hd := F.dlt k hk5
    rw [Int.zero_add]
    refine pe_binop ?_
    refine pe_binop ?_
    (repeat (walk_at "m pe"))
    refine op_item_list (ixN hk5) (hrow k hk5) ?_
    (repeat (walk_at "m pe"))
    have l1 := row_len k hk5 (d k) (Nat.lt_succ_of_le hd.2)
    refine op_len_str (by rw [l1]; exact le_mil (Nat.add_le_add_right hd.2 2)) ?_
    rw [l1]
    (repeat (walk_at "m pe"))
    refine op_pow (ixN hk5).1 (Int.le_trans (Int.ofNat_le.mpr (Nat.le_of_lt hk5)) (by decide)) (by decide) ?_
    refine op_mul (mulL (sub_small hd)) ?_
    rw [Int.toNat_natCast, sub_four]
    exact ⟨hacc, hn⟩
  rw [List.nil_append, filter_t, show (5 - 0 : Int).toNat = 5 from rfl]
  have e2 : (List.range 5).map (fun k => D.int (((d k : Int) - 2) * 16 ^ k)) = ((List.range 5).map fun k => ((d k : Int) - 2) * 16 ^ k).map D.int := by rw [List.map_map]; rfl
  rw [e2]
  (repeat (walk_at "m pe"))
  refine op_sum ?_
  show PL _ _ _ _ _ _
  (repeat (walk_at "m pe"))
  have ew : sumZ ((List.range 5).map fun k => ((d k : Int) - 2) * 16 ^ k) = winsZ d := rfl
  rw [ew]
  refine (spec_rounds hG F.rlen (fun ns' q1 q2 => ?_)).le (by decide)
  have : ns = ns' := sorted_unique (p1.trans (F.perm.trans q1.symm)) p2 q2
  subst this
  exact op_eq_list (scal_ints _) rfl
end

-- C50
set_option maxRecDepth 100000
theorem RD.slots {s s' s'' : Shared} {I₀ I I' : Store} {T : List Addr} {LL : Addr} (r : RD s I₀ T I s') (hL : LL ∈ T) (hsame : ∃ h tk, s'' = { s' with heap := h, toks := tk }) (old : ∀ b o, b ≠ LL → s'.heap.get? b = some o → s''.heap.get? b = some o) (h1 : Sub I I') (h3 : ∀ b o, I' b = some o → I b = some o ∨ s'.heap.get? b = none) : RD s I₀ T I' s'' := by
  refine ⟨?_, fun b o e => ?_, r.sub.trans h1, fun b o e => ?_⟩
  · obtain ⟨h, tk, rfl⟩ := r.same
    obtain ⟨h', tk', rfl⟩ := hsame
    exact ⟨h', tk', rfl⟩
  · obtain ⟨e1, e2⟩ := r.old b o e
    exact ⟨old b o (fun q => e2 (q ▸ hL)) e1, e2⟩
  · rcases h3 b o e with q | q
    · exact r.new b o q
    · exact .inr (none_of_keep (fun b o e => (r.old b o e).1) q)
theorem SIn.slots {G : Gd} {h₀ : Heap} {env : Env} {T : List Addr} {I I' : Store} {σ : Sto} {s s' : Shared} {oL : Obj} {sl : Array (Option Value)} (S : SIn G h₀ env T I σ s) (old : ∀ b o, b ≠ env.locals → s.heap.get? b = some o → s'.heap.get? b = some o) (hL : s.heap.get? env.locals = some oL) (hL' : s'.heap.get? env.locals = some { oL with slots := sl })
    (h1 : Sub I I') (h2 : Sub I' s'.heap.get?) (h3 : ∀ b o, I' b = some o → I b = some o ∨ s.heap.get? b = none) : SIn G h₀ env T I' σ s' := by
  obtain ⟨m, cm, ns, cl, rp, ap⟩ := S.names
  obtain ⟨b0, b1, b2⟩ := S.base
  refine ⟨⟨b0, fun b o e => old b o (fun q => by subst q; rw [b2 _ S.loc] at e; cases e) (b1 b o e), b2⟩, h2, fun b hb => ?_, S.kind, S.nodup, S.kinds, S.loc, fun b hb e => ?_, S.cells, S.apart, m, cm, ?_, fun n c e => ?_, fun x c hx => (rp x c hx).mono h1 fun a l hc hu o e => ?_, ap⟩
  · cases e : I' b with
    | none => rfl
    | some o =>
      rcases h3 b o e with q | q
      · rw [S.out b hb] at q; cases q
      · exact absurd q (S.live b hb)
  · by_cases hb' : b = env.locals
    · subst hb'; rw [hL'] at e; cases e
    · cases q : s.heap.get? b with
      | none => exact S.live b hb q
      | some o => rw [old b o hb' q] at e; cases e
  · obtain ⟨o, es, ep, g1, g2, g3⟩ := ns
    rw [hL] at g1; cases g1
    exact ⟨_, es, ep, hL', g2, g3⟩
  · obtain ⟨o, g1, g2⟩ := cl n c e
    exact ⟨o, old c o (S.cells n c e).2 g1, g2⟩
  · subst hc
    obtain ⟨a', e', y⟩ := rp x _ hx
    rw [hu] at e'; cases e'
    exact old a o y.loc e

section
variable {G : Gd} (hG : GOK G)
include hG
set_option maxHeartbeats 2000000 in
theorem law_if {xs : List Int} {N sh hi W torn : Nat} {ws : List Str} {c1 c2 c3 c4 c5 c6 c7 c8 c9 c10 c11 c12 : Cell} {body : List Stmt} {p1 p2 p3 p4 p5 p6 p7 p8 p9 p10 p11 p12 : Pos} (hW : W < 2 ^ 36) (htn : (sumZ xs).fmod 64 = (torn : Int)) (htn2 : torn < 64) {A : Around} {env : Env} {h₀ : Heap} {T : List Addr} {I : Store} {s : Shared} {Q : Flow → Shared → Prop}
    (oa : OkA 4 A) (eo : EnvOk (scopeIn (KP G) 132) env) (hf : env.frame = some env.locals) (hfr : A.frames = some [env]) (S : SIn G h₀ env T I (lawS xs (sumZ xs) sh hi N W ws c1 c2 c3 c4 c5 c6 c7 c8 c9 c10 c11 c12) s) {s₀ : Shared} {I₀ : Store} (R : RD s₀ I₀ T I s)
    (h : ∀ I' s', RD s₀ I₀ T I' s' → SIn G h₀ env T I' (lawS xs (sumZ xs) sh hi N W ws c1 c2 c3 c4 c5 c6 c7 c8 c9 c10 c11 c12) s' → Q .next s') :
    wpAny G.M A (exec (.If (.Compare (.Call (.Name "_law_read" p1) [.Name "whole" p2, .BinOp (.Name "total" p3) .Mod (.Constant (.int 64) 0 p4) p5] [] p6) [.NotEq] [.List [.Call (.Name "str" p7) [.Name "whole" p8] [] p9] p10] p11) body [] p12) env) Q Bot s := by
  unfold lawS at S h
  refine wpAny_If (wpAny_isTrue_Compare1 ?_ (by with_unfolding_all rfl))
  have hn : PE G 4 (scopeIn (KP G) 132) (immR (lawS xs (sumZ xs) sh hi N W ws c1 c2 c3 c4 c5 c6 c7 c8 c9 c10 c11 c12)) (.Name "_law_read" p1) fun d => d = .val (.ref 89) :=
    pe_glob (by walk_at "m gl") (by kernel_rfl) (d := .val (.ref 89)) (fun I => rep_val.mpr rfl) rfl
  have hargs : PL G 4 (scopeIn (KP G) 132) (immR (lawS xs (sumZ xs) sh hi N W ws c1 c2 c3 c4 c5 c6 c7 c8 c9 c10 c11 c12)) [.Name "whole" p2, .BinOp (.Name "total" p3) .Mod (.Constant (.int 64) 0 p4) p5] fun ds => ds = [.int (W : Nat), .int (torn : Nat)] := by
    unfold lawS
    (repeat (walk_at "m pe"))
    rw [htn]
  have hright : PE G 4 (scopeIn (KP G) 132) (immR (lawS xs (sumZ xs) sh hi N W ws c1 c2 c3 c4 c5 c6 c7 c8 c9 c10 c11 c12)) (.List [.Call (.Name "str" p7) [.Name "whole" p8] [] p9] p10) fun d => d = .list [.str (toString (W : Int))] := by
    unfold lawS
    (repeat (walk_at "m pe"))
    refine op_strOf ?_ (pl_nil ⟨by simp, rfl⟩)
    rw [Int.natAbs_natCast]
    by_cases h0 : W = 0
    · rw [h0]; decide
    · exact Nat.lt_trans ((Nat.log2_lt h0).mpr hW) (by decide)
  refine Call_ (wpAny_mono (hn A env I s oa eo S.immN) (fun v s₁ ⟨I₁, d, g₁, r₁, q₁⟩ => ?_) fun _ _ x => x)
  subst q₁
  rw [rep_val] at r₁
  subst r₁
  have S₁ := S.grow g₁
  have hB₁ : G.B s₁.heap := G.keeps S₁.base.1 S₁.base.2.1
  obtain ⟨o, fd, ho, hd⟩ := hf_of (G := G) hG (a := 89) (by kernel_rfl) _ hB₁
  refine callWith_function (o := o) (fd := fd) (evalArgs_any rfl (wpAny_mono (hargs A env I₁ s₁ p6 oa eo S₁.immN) (fun vs s₂ ⟨I₂, ds, g₂, r₂, q₂⟩ => ?_) fun _ _ x => x))
  subst q₂
  refine ⟨⟨g₂.keep _ _ ho, hd⟩, ?_⟩
  have S₂ := S₁.grow g₂
  obtain ⟨m, cm, ⟨oL, es, ep, hoL, hdL, _⟩, _⟩ := id S₂.names
  refine read_spec hG hW htn2 (oa.le (by omega)) hfr hf (by rw [eo.scope, eo.kind]; decide) S₂.base.1 S₂.base.2.1 (S₂.base.2.2 _ S₂.loc) S₂.sub (S₂.out _ S₂.loc) hoL (fun vs q => by rw [hdL] at q; cases q) r₂ fun v s₃ sl I₃ hsame hold hLo h1 h2 h3 r₃ => ?_
  have S₃ := S₂.slots hold hoL hLo h1 h2 h3
  have R₃ := ((R.tr (Tr.of_grow g₁)).tr (Tr.of_grow g₂)).slots S₂.loc hsame hold h1 h3
  refine wpAny_mono (hright A env I₃ s₃ oa eo S₃.immN) (fun u s₄ ⟨I₄, d, g₄, r₄, q₄⟩ => ?_) fun _ _ x => x
  subst q₄
  have S₄ := S₃.grow g₄
  have hop : Op2 G 4 (compareOp .NotEq) (.list [.str (toString (W : Int))]) (.list [.str (toString (W : Int))]) fun d => d = .bool false := op_ne_list rfl rfl
  refine wpAny_mono (hop A I₄ s₄ v u oa (G.keeps S₄.base.1 S₄.base.2.1) S₄.sub (r₃.mono g₄.sub) r₄) (fun b s₅ ⟨I₅, d, g₅, r₅, q₅⟩ => ?_) fun _ _ x => x
  subst q₅
  rw [rep_bool] at r₅
  subst r₅
  refine wpAny_truthy_bool ?_
  simp only [Bool.false_eq_true, if_false]
  exact wpAny_execs_nil (h I₅ s₅ ((R₃.tr (Tr.of_grow g₄)).tr (Tr.of_grow g₅)) (S₄.grow g₅))
end

section
variable {G : Gd} (hG : GOK G)
include hG
set_option maxHeartbeats 2000000 in
theorem law_spec {xs : List Int} (hx : xs.length < 64) {N sh hi W torn : Nat} {R : Nat → List Str} {d : Nat → Nat} {L : List Int × List Int} (hN : N < 1024) (hb : lateZ xs = bitsZ N) (hsh : (sumZ xs).fmod 23 = (sh : Int)) (hhi : ((sumZ xs).fdiv 23).fmod 4 = (hi : Int)) (hhi2 : hi < 4) (htn : (sumZ xs).fmod 64 = (torn : Int)) (htn2 : torn < 64)
    (hW : W = N * 2 ^ sh + hi * 2 ^ 32) (F : LawFacts N sh hi W R d L) {A : Around} {s : Shared} {I : Store} {vs : List Value} {K E : Value → Shared → Prop} (oa : OkA 5 A) (hfr : A.frames = some []) (hB : G.B s.heap) (hI : Sub I s.heap.get?) (rl : RepL I [.list (xs.map D.int)] vs) (hK : ∀ s', (∃ h tk, s' = { s with heap := h, toks := tk }) → (∀ b o, s.heap.get? b = some o → s'.heap.get? b = some o) → K (.bool true) s') :
    wpAny G.M A (call (.ref 132) vs) K E s := by
  refine wpAny_mono (E := Bot) ?_ (fun _ _ x => x) fun _ _ x => x.elim
  refine fn_enter (k := 4) (others := lawNames) (F132 hG) (by kernel_rfl) rfl oa hB (fun _ _ e => e) hI rl fun env s₁ T oa' eo hf S hsame hkeep hT => ?_
  have hN' : W < 2 ^ 36 := Nat.lt_trans F.w34 (by decide)
  have hfr' : (A.deeper env).frames = some [env] := by rw [show (A.deeper env).frames = A.frames.map (env :: ·) from rfl, hfr]; rfl
  rw [← List.take_append_drop 8 (bodyIn (KP G) 132)]
  refine wpAny_execs_append (wpAny_mono (law_pre hG hx hN hb hsh hhi F.sh23 hhi2 hW s.heap _ env T I s₁ oa' eo S) (fun f s₂ p => ?_) fun _ _ x => x.elim)
  cases f with
  | brk => obtain ⟨_, _, _, _, _, p⟩ := p; cases p
  | cont => obtain ⟨_, _, _, _, _, p⟩ := p; cases p
  | ret v => obtain ⟨_, _, _, _, _, _, p⟩ := p; cases p
  | next =>
    obtain ⟨T₂, I₂, σ₂, t₂, S₂, hσ⟩ := p
    cases hσ
    have R₁ : RD s I T I s₁ := ⟨hsame, fun b o e => ⟨hkeep b o e, fun q => by rw [hT b q] at e; cases e⟩, .refl _, fun _ _ e => .inl e⟩
    have R₂ := R₁.tr t₂
    have hrest : ∀ (h₁ : Heap) (T₁ I₁) (s₂ : Shared), RD s I T₁ I₁ s₂ → SIn G h₁ env T₁ I₁ (lawS xs (sumZ xs) sh hi N W (wordsA N sh hi) .no .no .no .no .no .no .no .no .no .no .no .no) s₂ → wpAny G.M (A.deeper env) (execs ((bodyIn (KP G) 132).drop 9) env) (fun f s' => K (match f with | .ret v => v | _ => .none) s') Bot s₂ := by
      intro h₁ T₁ I₁ s₂ R₂ S
      have hse : SE G 4 (scopeIn (KP G) 132) (lawS xs (sumZ xs) sh hi N W (wordsA N sh hi) .no .no .no .no .no .no .no .no .no .no .no .no) ((bodyIn (KP G) 132).drop 9) (fun o => o = .ret (.bool true)) := by
        have e1 : (bodyIn (KP G) 132).drop 9 = ((bodyIn (KP G) 132).drop 9).take 5 ++ (((bodyIn (KP G) 132).drop 14).take 3 ++ (bodyIn (KP G) 132).drop 17) := by
          rw [show (bodyIn (KP G) 132).drop 17 = ((bodyIn (KP G) 132).drop 14).drop 3 by rw [List.drop_drop], List.take_append_drop, show (bodyIn (KP G) 132).drop 14 = ((bodyIn (KP G) 132).drop 9).drop 5 by rw [List.drop_drop], List.take_append_drop]
        rw [e1]
        refine se_append ((law_b1 hG F).mono fun o ho => ?_)
        subst ho
        refine se_append ((law_b2 hG F).mono fun o ho => ?_)
        obtain ⟨c5, c6, c7, c8, c9, c10, rfl⟩ := ho
        exact law_b3 hG F
      refine wpAny_mono (hse h₁ _ env T₁ I₁ s₂ oa' eo S) (fun f s' p => ?_) fun _ _ x => x
      cases f with
      | brk => obtain ⟨_, _, _, _, _, p⟩ := p; cases p
      | cont => obtain ⟨_, _, _, _, _, p⟩ := p; cases p
      | next => obtain ⟨_, _, _, _, _, p⟩ := p; cases p
      | ret v =>
        obtain ⟨_, _, d, t, _, r, p⟩ := p
        cases p
        rw [rep_bool] at r
        subst r
        have R₃ := R₂.tr t
        exact hK s' R₃.same fun b o e => (R₃.old b o e).1
    show wpAny G.M (A.deeper env) (execs (List.drop 8 (bodyIn (KP G) 132)) env) _ _ s₂
    refine wpAny_mono (E := Bot) ?_ (fun _ _ x => x) fun _ _ x => x.elim
    conv => arg 3; arg 1; whnf
    refine wpAny_execs_cons ?_
    refine law_if hG hN' htn htn2 oa' eo hf hfr' S₂ R₂ ?_
    exact fun I' s' R' S' => hrest _ T₂ I' s' R' S'
end

-- C51
set_option maxRecDepth 100000
/-! ### the program that is at hand -/
noncomputable def glMod : List (Str × Value) := [(("quotedata" : Str), (Value.ref 48 : Value)), (("pretty_flags" : Str), (Value.ref 56 : Value)), (("_parse_varint" : Str), (Value.ref 63 : Value)), (("_substitution_cost" : Str), (Value.ref 70 : Value)), (("_levenshtein_distance" : Str), (Value.ref 77 : Value)), (("_law_word" : Str), (Value.ref 84 : Value)), (("_law_read" : Str), (Value.ref 89 : Value)), (("_law_game" : Str), (Value.ref 96 : Value)), (("_law_sent" : Str), (Value.ref 101 : Value)), (("_law_played" : Str), (Value.ref 108 : Value)), (("_law_triples" : Str), (Value.ref 115 : Value)), (("_law_turned" : Str), (Value.ref 122 : Value)), (("_law_rounds" : Str), (Value.ref 127 : Value)), (("_twin_re_1" : Str), (Value.ref 36 : Value)), (("_twin_re_2" : Str), (Value.ref 41 : Value)), (("COMPILER_FLAG_NAMES" : Str), (Value.ref 49 : Value)), (("CRLF" : Str), (Value.str "\r\n" 342 : Value)), (("_MAX_STRING_SIZE" : Str), (Value.int 40 405 : Value)), (("_MOVE_COST" : Str), (Value.int 2 407 : Value)), (("_CASE_COST" : Str), (Value.int 1 409 : Value))]
noncomputable def glBoot : List (Str × Value) := [(("range" : Str), (Value.type "range" : Value)), (("len" : Str), (Value.builtin "len" : Value)), (("str" : Str), (Value.type "str" : Value)), (("hex" : Str), (Value.builtin "hex" : Value)), (("iter" : Str), (Value.builtin "iter" : Value)), (("next" : Str), (Value.builtin "next" : Value)), (("sum" : Str), (Value.builtin "sum" : Value)), (("min" : Str), (Value.builtin "min" : Value)), (("list" : Str), (Value.type "list" : Value)), (("sorted" : Str), (Value.builtin "sorted" : Value)), (("abs" : Str), (Value.builtin "abs" : Value)), (("isinstance" : Str), (Value.builtin "isinstance" : Value)), (("zip" : Str), (Value.type "zip" : Value)), (("int" : Str), (Value.type "int" : Value)), (("bool" : Str), (Value.type "bool" : Value)), (("StopIteration" : Str), (Value.type "StopIteration" : Value))]
theorem glMod_ok (P : Params) : ∀ p ∈ glMod, (p.1 == ("__debug__" : Str)) = false ∧ nsIn (hd.heap_39 P) mainGlobals p.1 = some (some p.2) := by
  unfold glMod
  repeat refine List.forall_mem_cons.mpr ⟨⟨by decide +kernel, by kernel_rfl⟩, ?_⟩
  exact fun _ h => nomatch h
theorem glBoot_ok (P : Params) : ∀ p ∈ glBoot, (p.1 == ("__debug__" : Str)) = false ∧ nsIn (hd.heap_39 P) mainGlobals p.1 = some none ∧ p.1 ≠ ("__name__" : Str) ∧ bootBuiltins p.1 = some p.2 := by
  unfold glBoot
  repeat refine List.forall_mem_cons.mpr ⟨⟨by decide +kernel, by kernel_rfl, by decide +kernel, by kernel_rfl⟩, ?_⟩
  exact fun _ h => nomatch h
theorem law_at (P : Params) : nsIn (hd.heap_39 P) mainGlobals ("law" : Str) = some (some (.ref 132)) := by kernel_rfl

noncomputable def lawGd (p : Program) (w : World) (loose : List Str) (mean : ExcName → Option Value) (mg mb : Str → Option Value) : Gd where
  prog := p
  w := w
  B h := (hd.heap_39 w.params).In h ∧ Top hd.view_39 loose mean mg mb h
  keeps := fun ⟨a, b⟩ k => ⟨fun x o e => k _ _ (a x o e), b.keeps k⟩
  nolim := fun h => h.2.nolimit
  gl := glMod ++ glBoot
  glob := fun {h} ⟨X, T⟩ x v hx => by
    rcases List.mem_append.mp hx with hx | hx
    · obtain ⟨a, b⟩ := glMod_ok w.params _ hx
      exact ⟨a, .inl ⟨mg, T.g, mg_of X T.g b⟩⟩
    · obtain ⟨a, b, c, d⟩ := glBoot_ok w.params _ hx
      exact ⟨a, .inr ⟨mg, mb, T.g, mg_none_of X T.g b, T.b, (T.builtins x c).trans d⟩⟩
theorem lawGd_ok (p : Program) (w : World) (loose : List Str) (mean : ExcName → Option Value) (mg mb : Str → Option Value) : GOK (lawGd p w loose mean mg mb) where
  K := fun h hB => hB.1
  gl := fun p hp => hp

-- C52
set_option maxRecDepth 100000
noncomputable def AllFacts : Prop := ∀ N < 1024, ∀ sh < 23, ∀ hi < 4, ∃ R d L, LawFacts N sh hi (N * 2 ^ sh + hi * 2 ^ 32) R d L

theorem arg_rep {P : Params} {h : Heap} {a : Addr} {xs : List Int} {vals : List Value} (w1 : Well P h (.ref a) (ofPy (PyData.list (xs.map PyData.int)))) (hL : h.IsList a vals.toArray) (hI : IntsAre vals xs) : Rep h.get? (.list (xs.map D.int)) (.ref a) := by
  have e : ofPy (PyData.list (xs.map PyData.int)) = .list (ofPys (xs.map PyData.int)) := by rw [ofPy]
  rw [e] at w1
  cases w1 with
  | list ho _ =>
    rename_i vs _
    obtain ⟨o, ho', _, n, hd⟩ := hL
    rw [ho] at ho'
    cases ho'
    have : vs = vals := by
      have := (Data.seq.inj hd).1
      simpa using congrArg Array.toList this
    subst this
    exact rep_list.mpr ⟨a, 0, vs.toArray, rfl, ho, by simpa using ints_repL hI⟩
theorem fmod_nat (x : Int) {m : Nat} (hm : 0 < m) : (x.fmod m).toNat < m ∧ x.fmod m = ((x.fmod m).toNat : Int) := by
  have hm' : 0 < (m : Int) := Int.ofNat_lt.mpr hm
  rw [Int.fmod_eq_emod_of_nonneg _ (Int.le_of_lt hm')]
  have h0 := Int.emod_nonneg x (Int.ne_of_gt hm')
  exact ⟨(Int.toNat_lt h0).mpr (Int.emod_lt_of_pos _ hm'), (Int.toNat_of_nonneg h0).symm⟩
theorem bits_of : ∀ (k : Nat) (l : List Int), l.length = k → (∀ x ∈ l, x = 0 ∨ x = 1) → ∃ N, N < 2 ^ k ∧ l = (List.range k).map fun i => ((N / 2 ^ i % 2 : Nat) : Int)
  | 0, l, h, _ => ⟨0, by simp, by rw [List.length_eq_zero_iff.mp h]; rfl⟩
  | k + 1, [], h, _ => by simp at h
  | k + 1, x :: r, h, hb => by
    obtain ⟨N, hN, hr⟩ := bits_of k r (by simpa using h) fun y hy => hb y (.tail _ hy)
    have hx := hb x (.head _)
    have key : ∀ b < 2, ∀ i, (b + 2 * N) / 2 ^ (i + 1) = N / 2 ^ i := fun b hb i => by
      rw [Nat.pow_succ, Nat.mul_comm (2 ^ i) 2, ← Nat.div_div_eq_div_mul]
      rw [Nat.add_mul_div_left _ _ (by decide), Nat.div_eq_of_lt hb, Nat.zero_add]
    have fin : ∀ b : Nat, b < 2 → x = (b : Int) → ∃ N', N' < 2 ^ (k + 1) ∧ x :: r = (List.range (k + 1)).map fun i => ((N' / 2 ^ i % 2 : Nat) : Int) := fun b hb2 hxb => by
      refine ⟨b + 2 * N, by clear hxb hr hx hb h key; rw [Nat.pow_succ]; omega, ?_⟩
      rw [List.range_succ_eq_map, List.map_cons, List.map_map, hr]
      congr 1
      · rw [hxb]
        show (b : Int) = (((b + 2 * N) / 2 ^ 0 % 2 : Nat) : Int)
        rw [Nat.pow_zero, Nat.div_one, Nat.add_mul_mod_self_left, Nat.mod_eq_of_lt hb2]
      · refine List.map_congr_left fun i _ => ?_
        show _ = (((b + 2 * N) / 2 ^ (i + 1) % 2 : Nat) : Int)
        rw [key b hb2 i]
    rcases hx with h | h
    · exact fin 0 (by decide) (by simpa using h)
    · exact fin 1 (by decide) (by simpa using h)
theorem late_bits (xs : List Int) : ∃ N, N < 1024 ∧ lateZ xs = bitsZ N := by
  have hl : (lateZ xs).length = 10 := by
    unfold lateZ
    rw [List.length_append, List.length_map, List.length_take, List.length_drop, show tailZ.length = 10 from rfl]; omega
  refine bits_of 10 (lateZ xs) hl fun x hx => ?_
  unfold lateZ at hx
  rcases List.mem_append.mp hx with h | h
  · obtain ⟨y, _, rfl⟩ := List.mem_map.mp h
    rw [Int.fmod_eq_emod_of_nonneg _ (by decide)]; exact Int.emod_two_eq y
  · have := List.mem_of_mem_drop h
    have hall : ∀ z ∈ tailZ, z = 0 ∨ z = 1 := by decide
    exact hall x this

set_option maxRecDepth 100000 in
set_option maxHeartbeats 8000000 in
theorem joined (H : AllFacts) : PySem.Challenge.rw_ta0012_01.Holds := hd (by
  w_strict (
  k_fill
  intro w s₀ s₁ mg mb G Y fa o pm cd doc dV kV ho hd' hcd hD hmg hg args vals as hpre hlay hrd hwl hlo
  have KX := kIn_of Y
  have X := (Ground.X G).1
  have V := (Ground.X G).2
  refine Ground.open G ?_
  intro T B D TE TW
  try (refine guard_noD D (by decide +kernel) ?_; clear D)
  have efa : fa = 132 := by
    have h1 := mg_of KX T.g (law_at w.params)
    have h2 := h1.symm.trans hmg
    exact (Value.ref.inj (Option.some.inj h2)).symm
  subst efa
  clear hmg hd' hcd hD
  wrow_args hpre hlay hrd hwl hlo
  rename_i xs hs hlay0 hL1 hr1 hl2 w4 w3 a vs w_ hL ra w1 r0 hI hr hlen htriv
  obtain ⟨N, hN, hb⟩ := late_bits xs
  have h23 := fmod_nat (sumZ xs) (m := 23) (by decide)
  have h4 := fmod_nat ((sumZ xs).fdiv 23) (m := 4) (by decide)
  have h64 := fmod_nat (sumZ xs) (m := 64) (by decide)
  obtain ⟨R, d, L, F⟩ := H N hN ((sumZ xs).fmod 23).toNat h23.1 (((sumZ xs).fdiv 23).fmod 4).toNat h4.1
  refine law_spec (G := lawGd _ w _ _ mg mb) (lawGd_ok _ _ _ _ _ _) (Nat.lt_succ_of_le (Int.ofNat_le.mp (Int.not_lt.mp hlen))) hN hb h23.2 h4.2 h4.1 (torn := ((sumZ xs).fmod 64).toNat) h64.2 h64.1 rfl F (I := s₁.heap.get?) ⟨rfl, by decide, by decide⟩ rfl ⟨KX, T⟩ (Sub.refl _) (repL_cons.mpr ⟨_, _, rfl, arg_rep w1 hL hI, repL_nil.mpr rfl⟩) ?_
  intro s' hsame hkeep
  obtain ⟨hh, tk, rfl⟩ := hsame
  refine ⟨.inl ⟨_, .bool true, [], rfl, fun _ => rfl, ?_, ?_, fun _ => ⟨List.nodup_nil, fun _ h => nomatch h⟩⟩, .of_keep hkeep, rfl, .of_eq hg⟩
  · constructor
  · first | rfl | kernel_rfl))

-- P3
set_option maxRecDepth 100000
section
open PySem.StrLaws PySem.Builtin.Str

/-! ### texts as lists -/
noncomputable def joinL (y : List Nat) : List (List Nat) → List Nat
  | [] => []
  | [p] => p
  | p :: r => p ++ y ++ joinL y r
noncomputable def mkS (l : List Nat) : Str := ⟨l.toArray⟩
theorem mkS_toList (x : Str) : mkS x.cps.toList = x := by unfold mkS; simp
theorem joinS_toList (y : Str) : ∀ ls : List Str, (Str.join y ls).cps.toList = joinL y.cps.toList (ls.map (·.cps.toList))
  | [] => rfl
  | [p] => rfl
  | p :: q :: r => by
    have ih := joinS_toList y (q :: r)
    show (p ++ y ++ Str.join y (q :: r)).cps.toList = p.cps.toList ++ y.cps.toList ++ joinL y.cps.toList ((q :: r).map (·.cps.toList))
    rw [← ih]
    simp only [Str.cps_append, Array.toList_append]
theorem txtJoin_eq (y : Str) (ls : List Str) : Txt.join y ls = Str.join y ls := by
  cases ls with
  | nil => rfl
  | cons x r => exact glued_cons y r x
theorem join_toList (y : Str) (ls : List Str) : (Txt.join y ls).cps.toList = joinL y.cps.toList (ls.map (·.cps.toList)) := by rw [txtJoin_eq, joinS_toList]
theorem joinL_nil : ∀ ls : List (List Nat), joinL [] ls = ls.flatten
  | [] => rfl
  | [p] => by simp [joinL]
  | p :: q :: r => by
    have ih := joinL_nil (q :: r)
    show p ++ [] ++ joinL [] (q :: r) = _
    rw [ih]; simp

/-! ### split -/
noncomputable def segOk (y : List Nat) : List (List Nat) → Prop
  | [] => False
  | [p] => ∀ j, ¬ (p.drop j).take y.length = y
  | p :: r => (∀ j, j < p.length → ¬ ((p ++ y ++ joinL y r).drop j).take y.length = y) ∧ segOk y r
theorem at_iff {x y : Str} {i : Nat} (hy : 1 ≤ y.length) : StrLaws.At x y x.length i ↔ (x.cps.toList.drop i).take y.length = y.cps.toList := by
  unfold StrLaws.At
  rw [subAt_eq, beq_iff_eq]
  constructor
  · exact fun h => h.2
  · intro h
    refine ⟨?_, h⟩
    have := congrArg List.length h
    have e1 : y.cps.toList.length = y.length := by simp [Str.length]
    have e2 : x.cps.toList.length = x.length := by simp [Str.length]
    rw [List.length_take, List.length_drop, e1, e2] at this
    omega
theorem seg_parts {x y : Str} (hy : 1 ≤ y.length) : ∀ (ps : List (List Nat)) (a : Nat) (cuts : List Nat) (f : Nat), a ≤ x.length → x.cps.toList.drop a = joinL y.cps.toList ps → segOk y.cps.toList ps → ChainG x y x.length a cuts f → (∀ k, f ≤ k → ¬ StrLaws.At x y x.length k) →
    partsFrom x y.length a cuts = ps.map mkS
  | [], _, _, _, _, _, h, _, _ => h.elim
  | [p], a, cuts, f, ha, hx, hs, hc, hn => by
    have hno : ∀ c, a ≤ c → ¬ StrLaws.At x y x.length c := fun c hac hA => by
      rw [at_iff hy] at hA
      have e1 : y.cps.toList.length = y.length := by simp [Str.length]
      have : x.cps.toList.drop c = p.drop (c - a) := by
        have h2 : x.cps.toList.drop a = p := hx
        rw [← h2, List.drop_drop]; congr 1; omega
      rw [this] at hA
      exact hs (c - a) (by rw [e1]; exact hA)
    cases cuts with
    | nil =>
      show [strSub x a x.length] = [mkS p]
      congr 1
      have e2 : x.cps.toList.length = x.length := by simp [Str.length]
      rw [← mkS_toList (strSub x a x.length), strSub_toList]
      have h2 : x.cps.toList.drop a = p := hx
      rw [h2]
      congr 1
      rw [List.take_of_length_le]
      rw [← h2, List.length_drop, e2]; exact Nat.le_refl _
    | cons c r => exact absurd hc.2.1 (hno c hc.1)
  | p :: q :: r, a, cuts, f, ha, hx, hs, hc, hn => by
    have e1 : y.cps.toList.length = y.length := by simp [Str.length]
    have e2 : x.cps.toList.length = x.length := by simp [Str.length]
    have hx' : x.cps.toList.drop a = p ++ y.cps.toList ++ joinL y.cps.toList (q :: r) := hx
    have hlen : a + p.length + y.length ≤ x.length := by
      have := congrArg List.length hx'
      rw [List.length_drop, e2, List.length_append, List.length_append, e1] at this
      omega
    have hat : StrLaws.At x y x.length (a + p.length) := by
      rw [at_iff hy, ← List.drop_drop, hx', List.append_assoc, List.drop_left, List.take_left' e1]
    have hbef : ∀ c, a ≤ c → c < a + p.length → ¬ StrLaws.At x y x.length c := fun c h1 h2 hA => by
      rw [at_iff hy] at hA
      have : x.cps.toList.drop c = (p ++ y.cps.toList ++ joinL y.cps.toList (q :: r)).drop (c - a) := by
        rw [← hx', List.drop_drop]; congr 1; omega
      rw [this] at hA
      exact hs.1 (c - a) (by omega) (by rw [e1]; exact hA)
    cases cuts with
    | nil =>
      have : f = a := hc
      subst this
      exact absurd hat (hn _ (by omega))
    | cons c cs =>
      obtain ⟨c1, c2, c3, c4⟩ := hc
      have ec : c = a + p.length := by
        rcases Nat.lt_trichotomy c (a + p.length) with h | h | h
        · exact absurd c2 (hbef c c1 h)
        · exact h
        · exact absurd hat (c3 _ (by omega) h)
      subst ec
      have hx2 : x.cps.toList.drop (a + p.length + y.length) = joinL y.cps.toList (q :: r) := by
        rw [← List.drop_drop, ← List.drop_drop, hx', List.append_assoc, List.drop_left, List.drop_left' e1]
      have ih := seg_parts hy (q :: r) (a + p.length + y.length) cs f hlen hx2 hs.2 c4 hn
      show strSub x a (a + p.length) :: partsFrom x y.length (a + p.length + y.length) cs = mkS p :: _
      rw [ih]
      congr 1
      rw [← mkS_toList (strSub x a (a + p.length)), strSub_toList, hx', List.append_assoc, show a + p.length - a = p.length by omega, List.take_left]

theorem split_segs {x y : Str} {ps : List (List Nat)} (hy : 1 ≤ y.length) (hk : Builtin.Str.strKind y = 1) (hx : x.cps.toList = joinL y.cps.toList ps) (hs : segOk y.cps.toList ps) : Txt.split x y = ps.map mkS := by
  obtain ⟨f, hG, hn⟩ := occ_tight x y hy
  have h0 := seg_parts hy ps 0 _ f (Nat.zero_le _) (by simpa using hx) hs hG hn
  have one : ∀ {L : List Nat}, partsFrom x y.length 0 L = ps.map mkS → L = [] → [x] = ps.map mkS := fun h e => by
    subst e
    rw [← h]
    show [x] = [strSub x 0 x.length]
    rw [sub_whole]
  unfold Txt.split
  split
  · rename_i hc
    refine one h0 ?_
    rw [Bool.or_eq_true, decide_eq_true_eq, decide_eq_true_eq] at hc
    rcases hc with h | h
    · cases hL : occurrences x y 0 x.length (x.length + 1) with
      | nil => rfl
      | cons c r =>
        rw [hL] at hG
        have := hG.2.1.1
        omega
    · rw [hk] at h
      have : 1 ≤ Builtin.Str.strKind x := by
        unfold Builtin.Str.strKind
        split
        · exact Nat.le_refl _
        · split
          · decide
          · decide
      omega
  · split
    · rename_i he
      exact one h0 (List.isEmpty_iff.mp he)
    · rw [partsBetween_eq]; exact h0

/-- parts that lack the first sign of what is between them -/
theorem segOk_free {c : Nat} {y : List Nat} : ∀ (ps : List (List Nat)), ps ≠ [] → (∀ p ∈ ps, c ∉ p) → segOk (c :: y) ps
  | [], h, _ => h rfl
  | [p], _, hp => fun j h => by
    have : c ∈ (p.drop j).take (c :: y).length := by rw [h]; exact .head _
    exact hp p (.head _) (List.mem_of_mem_drop (List.mem_of_mem_take this))
  | p :: q :: r, _, hp => by
    refine ⟨fun j hj h => ?_, segOk_free (q :: r) (by simp) fun p' hp' => hp p' (.tail _ hp')⟩
    rw [List.append_assoc, List.drop_append_of_le_length (Nat.le_of_lt hj), List.drop_eq_getElem_cons hj, List.length_cons, List.cons_append, List.take_succ_cons] at h
    have := (List.cons.inj h).1
    exact hp p (.head _) (this ▸ List.getElem_mem hj)
end

-- P4
set_option maxRecDepth 100000
noncomputable def flatS (l : List Str) : List Nat := (l.map (·.cps.toList)).flatten
theorem getD_drop {t : Array Nat} {d j : Nat} {Z : List Nat} (h : t.toList.drop d = Z) : t.getD (d + j) 0 = Z.getD j 0 := by
  rw [← h]
  simp [Array.getD_eq_getD_getElem?, List.getD]
theorem drop_len {t : Array Nat} {d : Nat} {Z : List Nat} (h : t.toList.drop d = Z) (hd : d ≤ t.size) : t.size = d + Z.length := by
  rw [← h]; simp; omega

theorem gd_left {l r : List Nat} {j : Nat} (h : j < l.length) : (l ++ r).getD j 0 = l.getD j 0 := by simp [List.getD, List.getElem?_append_left h]
theorem gd_right {l r : List Nat} (k : Nat) : (l ++ r).getD (l.length + k) 0 = r.getD k 0 := by
  simp [List.getD, List.getElem?_append_right (Nat.le_add_right _ _)]
theorem gd_mem {l : List Nat} {j : Nat} (h : j < l.length) : l.getD j 0 ∈ l := by
  rw [show l.getD j 0 = l[j] by simp [List.getD, h]]
  exact List.getElem_mem h
/-! ### line ends -/
theorem find2_at {t : Array Nat} : ∀ (n d f : Nat), (∀ j, j < n → eolAt t (d + j) = false) → eolAt t (d + n) = true → d + n < t.size → n < f → find2 t f d = some (d + n)
  | n, d, 0, _, _, _, h => absurd h (Nat.not_lt_zero _)
  | 0, d, f + 1, _, h, hs, _ => by
    unfold find2
    rw [if_neg (by omega), if_pos (by simpa using h)]; rfl
  | n + 1, d, f + 1, hn, h, hs, hf => by
    unfold find2
    rw [if_neg (by omega), if_neg (by rw [show d = d + 0 from rfl, hn 0 (by omega)]; decide)]
    rw [find2_at n (d + 1) f (fun j hj => by have := hn (j + 1) (by omega); rw [show d + 1 + j = d + (j + 1) by omega]; exact this) (by rw [show d + 1 + n = d + (n + 1) by omega]; exact h) (by omega) (by omega)]
    congr 1; omega
theorem find2_end {t : Array Nat} (f : Nat) : find2 t f t.size = none := by
  cases f with
  | zero => rfl
  | succ f => unfold find2; rw [if_pos (Nat.le_refl _)]
inductive IsEol : List Nat → List Nat → Prop
  | nl (r) : IsEol [10] r
  | cr (r) (h : r.getD 0 0 ≠ 10) : IsEol [13] r
  | crnl (r) : IsEol [13, 10] r
theorem eol_line {t : Array Nat} {d f : Nat} {l e r : List Nat} (hd : d ≤ t.size) (h : t.toList.drop d = l ++ e ++ r) (hl : ∀ c ∈ l, c ≠ 10 ∧ c ≠ 13) (he : IsEol e r) :
    flatS (subP (f2 t) t "\r\n" (f + 1) d) = l ++ [13, 10] ++ flatS (subP (f2 t) t "\r\n" f (d + l.length + e.length)) := by
  have hs := drop_len h hd
  have he1 : 1 ≤ e.length := by cases he <;> simp
  have e0 : ∃ c e', e = c :: e' ∧ (c = 10 ∨ c = 13) := by cases he <;> exact ⟨_, _, rfl, by simp⟩
  obtain ⟨c, e', rfl, hc⟩ := e0
  have hat : ∀ j, j < l.length → eolAt t (d + j) = false := fun j hj => by
    unfold eolAt
    rw [getD_drop h, List.append_assoc, gd_left hj]
    have := hl (l.getD j 0) (gd_mem hj)
    simp only [Bool.or_eq_false_iff, beq_eq_false_iff_ne]
    exact this
  have g0 : t.getD (d + l.length) 0 = c := by
    rw [getD_drop h, List.append_assoc, show l.length = l.length + 0 from rfl, gd_right]; rfl
  have hat2 : eolAt t (d + l.length) = true := by
    unfold eolAt; rw [g0]
    rcases hc with rfl | rfl <;> rfl
  have hlt : d + l.length < t.size := by rw [hs]; simp
  have hf : f2 t d = some (d + l.length, eolEnd t (d + l.length)) := by
    unfold f2
    rw [find2_at l.length d _ hat hat2 hlt (by omega)]; rfl
  have hend : eolEnd t (d + l.length) = d + l.length + (c :: e').length := by
    unfold eolEnd
    rw [g0]
    have g1 : t.getD (d + l.length + 1) 0 = (e' ++ r).getD 0 0 := by
      rw [Nat.add_assoc, getD_drop h, List.append_assoc, gd_right]
      rfl
    cases he with
    | nl => rw [if_neg (by simp)]; simp
    | cr r hr =>
      rw [g1]
      rw [if_neg (by
        intro q
        simp only [Bool.and_eq_true, beq_iff_eq, decide_eq_true_eq] at q
        exact hr q.2)]
      simp
    | crnl =>
      rw [g1, if_pos (by rw [decide_eq_true (by rw [hs]; simp; omega)]; rfl)]
      simp
  show flatS (match f2 t d with | some (p, e) => (if d < p then [(⟨t.extract d p⟩ : Str)] else []) ++ ("\r\n" : Str) :: subP (f2 t) t "\r\n" f e | none => if d < t.size then [⟨t.extract d t.size⟩] else []) = _
  rw [hf, hend]
  have hcr : ("\r\n" : Str).cps.toList = [13, 10] := by decide +kernel
  have hx : flatS (if d < d + l.length then [(⟨t.extract d (d + l.length)⟩ : Str)] else []) = l := by
    split
    · show (((⟨t.extract d (d + l.length)⟩ : Str).cps.toList) ++ []) = l
      rw [List.append_nil]
      show (t.extract d (d + l.length)).toList = l
      rw [Array.toList_extract, List.extract_eq_take_drop, h, List.append_assoc, Nat.add_sub_cancel_left, List.take_left]
    · have : l = [] := List.length_eq_zero_iff.mp (by omega)
      rw [this]; rfl
  unfold flatS at hx ⊢
  rw [List.map_append, List.flatten_append, hx, List.map_cons, List.flatten_cons, hcr, List.append_assoc]
theorem eol_end {t : Array Nat} {f : Nat} : flatS (subP (f2 t) t "\r\n" f t.size) = [] := by
  cases f with
  | zero => rfl
  | succ f =>
    show flatS (match f2 t t.size with | some (p, e) => _ | none => if t.size < t.size then [⟨t.extract t.size t.size⟩] else []) = _
    have : f2 t t.size = none := by unfold f2; rw [find2_end]; rfl
    rw [this, if_neg (Nat.lt_irrefl _)]; rfl

/-- a text of lines -/
noncomputable def mailL : List (List Nat × List Nat) → List Nat
  | [] => []
  | (l, e) :: r => l ++ e ++ mailL r
noncomputable def mailOk : List (List Nat × List Nat) → Prop
  | [] => True
  | (l, e) :: r => (∀ c ∈ l, c ≠ 10 ∧ c ≠ 13) ∧ IsEol e (mailL r) ∧ mailOk r
noncomputable def crlfL : List (List Nat × List Nat) → List Nat
  | [] => []
  | (l, _) :: r => l ++ [13, 10] ++ crlfL r
theorem eol_all {t : Array Nat} : ∀ (ls : List (List Nat × List Nat)) (d f : Nat), d ≤ t.size → t.toList.drop d = mailL ls → mailOk ls → ls.length < f → flatS (subP (f2 t) t "\r\n" f d) = crlfL ls
  | [], d, f, hd, h, _, _ => by
    have : d = t.size := by have := drop_len h hd; simp [mailL] at this; omega
    subst this
    exact eol_end
  | (l, e) :: r, d, 0, _, _, _, hf => absurd hf (Nat.not_lt_zero _)
  | (l, e) :: r, d, f + 1, hd, h, ⟨h1, h2, h3⟩, hf => by
    have hs := drop_len h hd
    rw [eol_line hd h h1 h2]
    have hlen : d + l.length + e.length ≤ t.size := by rw [hs]; simp [mailL]; omega
    rw [eol_all r (d + l.length + e.length) f hlen ?_ h3 (by simp at hf; omega)]
    · rfl
    · rw [Nat.add_assoc, ← List.drop_drop, h]
      show List.drop (l.length + e.length) (l ++ e ++ mailL r) = _
      exact List.drop_left' (by simp)
theorem eolS_lines {x : Str} {ls : List (List Nat × List Nat)} (h : x.cps.toList = mailL ls) (ho : mailOk ls) (hl : ls.length ≤ x.cps.size) : (eolS x).cps.toList = crlfL ls := by
  unfold eolS
  rw [join_toList]
  have e0 : (⟨#[]⟩ : Str).cps.toList = [] := rfl
  rw [e0, joinL_nil]
  exact eol_all ls 0 _ (Nat.zero_le _) (by simpa using h) ho (by omega)

/-! ### dots -/
noncomputable def dotL : Bool → List Nat → List Nat
  | _, [] => []
  | b, c :: r => (if b && c == 46 then [46, 46] else [c]) ++ dotL (c == 10) r
noncomputable def startAt (t : Array Nat) (d : Nat) : Bool := d == 0 || t.getD (d - 1) 0 == 10
theorem dot_skip {t : Array Nat} : ∀ (n d : Nat), d + n ≤ t.size → (∀ j, j < n → hit1 t (d + j) = false) → dotL (startAt t d) (t.toList.drop d) = (t.toList.drop d).take n ++ dotL (startAt t (d + n)) (t.toList.drop (d + n))
  | 0, d, _, _ => by simp
  | n + 1, d, hd, hn => by
    have hlt : d < t.toList.length := by simp; omega
    rw [List.drop_eq_getElem_cons hlt, List.take_succ_cons]
    have h0 := hn 0 (by omega)
    have hg : t.getD d 0 = t.toList[d] := by
      have : d < t.size := by simpa using hlt
      simp [Array.getD, this]
    have ih := dot_skip (t := t) n (d + 1) (by omega) fun j hj => by
      have := hn (j + 1) (by omega)
      rw [show d + 1 + j = d + (j + 1) by omega]; exact this
    have hs : startAt t (d + 1) = (t.toList[d] == 10) := by
      unfold startAt
      rw [Nat.add_sub_cancel, hg]; simp
    have hc : (startAt t d && t.toList[d] == 46) = false := by
      unfold hit1 at h0
      unfold startAt
      rw [Nat.add_zero, hg] at h0
      have : decide (d < t.size) = true := decide_eq_true (by omega)
      rw [this, Bool.and_true] at h0
      exact h0
    rw [dotL, hc, if_neg (by decide), ← hs, ih]
    show [t.toList[d]] ++ (_ ++ _) = (t.toList[d] :: _) ++ _
    rw [show d + 1 + n = d + (n + 1) by omega]
    simp
theorem find1_spec {t : Array Nat} : ∀ (f d : Nat), (∀ q, find1 t f d = some q → d ≤ q ∧ q < t.size ∧ hit1 t q = true ∧ ∀ j, d ≤ j → j < q → hit1 t j = false) ∧ (find1 t f d = none → t.size - d < f → ∀ j, d ≤ j → j < t.size → hit1 t j = false)
  | 0, d => ⟨fun q h => (by cases h), fun _ h => absurd h (Nat.not_lt_zero _)⟩
  | f + 1, d => by
    obtain ⟨i1, i2⟩ := find1_spec (t := t) f (d + 1)
    unfold find1
    cases hh : hit1 t d with
    | true =>
      rw [if_pos rfl]
      refine ⟨fun q h => ?_, fun h => by cases h⟩
      cases h
      have : d < t.size := by
        unfold hit1 at hh
        simp only [Bool.and_eq_true, decide_eq_true_eq] at hh
        exact hh.1.2
      exact ⟨Nat.le_refl _, this, hh, fun j h1 h2 => by omega⟩
    | false =>
      rw [if_neg (by decide)]
      split
      · refine ⟨fun q h => ?_, fun h hf j h1 h2 => ?_⟩
        · obtain ⟨a, b, c, e⟩ := i1 q h
          refine ⟨by omega, b, c, fun j h1 h2 => ?_⟩
          rcases Nat.lt_or_ge d j with h3 | h3
          · exact e j (by omega) h2
          · have : j = d := by omega
            rw [this]; exact hh
        · rcases Nat.lt_or_ge d j with h3 | h3
          · exact i2 h (by omega) j (by omega) h2
          · have : j = d := by omega
            rw [this]; exact hh
      · exact ⟨fun q h => (by cases h), fun _ _ j h1 h2 => by omega⟩
theorem dot_all {t : Array Nat} : ∀ (f d : Nat), d ≤ t.size → t.size - d < f → flatS (subP (f1 t) t ".." f d) = dotL (startAt t d) (t.toList.drop d)
  | 0, d, _, h => absurd h (Nat.not_lt_zero _)
  | f + 1, d, hd, hf => by
    obtain ⟨i1, i2⟩ := find1_spec (t := t) (t.size - d + 1) d
    show flatS (match f1 t d with | some (p, e) => (if d < p then [(⟨t.extract d p⟩ : Str)] else []) ++ (".." : Str) :: subP (f1 t) t ".." f e | none => if d < t.size then [⟨t.extract d t.size⟩] else []) = _
    have hp : ∀ p, d ≤ p → flatS (if d < p then [(⟨t.extract d p⟩ : Str)] else []) = (t.toList.drop d).take (p - d) := fun p hp => by
      split
      · show (((⟨t.extract d p⟩ : Str).cps.toList) ++ []) = _
        rw [List.append_nil]
        show (t.extract d p).toList = _
        rw [Array.toList_extract, List.extract_eq_take_drop]
      · rw [Nat.sub_eq_zero_of_le (Nat.le_of_not_lt (by assumption))]; rfl
    cases h1 : find1 t (t.size - d + 1) d with
    | none =>
      have hn : f1 t d = none := by unfold f1; rw [h1]; rfl
      rw [hn]
      have hno := i2 h1 (by omega)
      show flatS (if d < t.size then [(⟨t.extract d t.size⟩ : Str)] else []) = _
      rw [hp t.size hd, dot_skip (t.size - d) d (by omega) fun j hj => hno _ (by omega) (by omega), Nat.add_sub_cancel' hd, show t.toList.drop t.size = [] by simp]
      simp [dotL]
    | some q =>
      obtain ⟨a, b, c, e⟩ := i1 q h1
      have hn : f1 t d = some (q, q + 1) := by unfold f1; rw [h1]; rfl
      rw [hn]
      have hdd : (".." : Str).cps.toList = [46, 46] := by decide +kernel
      have ih := dot_all (t := t) f (q + 1) (by omega) (by omega)
      have hp' := hp q a
      unfold flatS at hp' ih ⊢
      show ((((if d < q then [(⟨t.extract d q⟩ : Str)] else []) ++ (".." : Str) :: subP (f1 t) t ".." f (q + 1)).map (·.cps.toList)).flatten) = _
      rw [List.map_append, List.flatten_append, hp', List.map_cons, List.flatten_cons, hdd, ih]
      rw [dot_skip (q - d) d (by omega) fun j hj => e _ (by omega) (by omega), Nat.add_sub_cancel' a]
      congr 1
      have hlt : q < t.toList.length := by simp; omega
      have hg : t.getD q 0 = t.toList[q] := by simp [Array.getD, b]
      rw [List.drop_eq_getElem_cons hlt, dotL]
      have hh : (startAt t q && t.toList[q] == 46) = true := by
        unfold hit1 at c
        rw [hg, decide_eq_true b, Bool.and_true] at c
        exact c
      have h46 : t.toList[q] = 46 := by
        have := (Bool.and_eq_true_iff.mp hh).2
        exact beq_iff_eq.mp this
      rw [hh, if_pos rfl]
      have hs : startAt t (q + 1) = (t.toList[q] == 10) := by
        unfold startAt
        rw [Nat.add_sub_cancel, hg]; simp
      rw [hs]
theorem dotS_toList (x : Str) : (dotS x).cps.toList = dotL true x.cps.toList := by
  unfold dotS
  rw [join_toList]
  have e0 : (⟨#[]⟩ : Str).cps.toList = [] := rfl
  rw [e0, joinL_nil]
  have := dot_all (t := x.cps) (x.cps.size + 1) 0 (Nat.zero_le _) (by omega)
  exact this.trans (by simp [startAt])
theorem dotL_free : ∀ (l Z : List Nat), 10 ∉ l → dotL false (l ++ Z) = l ++ dotL false Z
  | [], Z, _ => rfl
  | c :: r, Z, h => by
    have hc : (c == 10) = false := by
      rw [beq_eq_false_iff_ne]; exact fun q => h (q ▸ .head _)
    rw [List.cons_append, dotL, hc, dotL_free r Z fun q => h (.tail _ q)]
    simp
noncomputable def dot1 : List Nat → List Nat
  | [] => []
  | c :: r => if c = 46 then 46 :: 46 :: r else c :: r
theorem dotL_line (l Z : List Nat) (h : 10 ∉ l) : dotL true (l ++ [13, 10] ++ Z) = dot1 l ++ [13, 10] ++ dotL true Z := by
  cases l with
  | nil => rfl
  | cons c r =>
    have hc : (c == 10) = false := by
      rw [beq_eq_false_iff_ne]; exact fun q => h (q ▸ .head _)
    have hr : 10 ∉ r := fun q => h (.tail _ q)
    rw [List.append_assoc, List.cons_append, dotL, hc, dotL_free r _ hr]
    have e : dotL false ([13, 10] ++ Z) = [13, 10] ++ dotL true Z := rfl
    rw [e, dot1]
    by_cases q : c = 46
    · subst q; simp
    · simp [q]
theorem dotL_all : ∀ (ls : List (List Nat × List Nat)), (∀ p ∈ ls, 10 ∉ p.1) → dotL true (crlfL ls) = joinL [13, 10] (ls.map (fun p => dot1 p.1) ++ [[]])
  | [], _ => rfl
  | (l, e) :: r, h => by
    rw [crlfL, dotL_line l _ (h (l, e) (.head _)), dotL_all r fun p hp => h p (.tail _ hp)]
    cases r with
    | nil => rfl
    | cons p r => rfl

-- P5
set_option maxRecDepth 100000
theorem slice_drop {x : Str} {n : Nat} (h : n ≤ x.length) : Txt.slice x (some (n : Int)) none = mkS (x.cps.toList.drop n) := by
  rw [slice_from_eq (b := (x.length : Int)) (by omega) (by omega) rfl]
  unfold mkS
  rw [Int.toNat_natCast, List.take_of_length_le]
  rw [List.length_drop]
  have : x.cps.toList.length = x.length := by simp [Str.length]
  omega

noncomputable def rowsS (d : Nat → Nat) : List Str := (List.range 5).map fun k => rowS k (d k)
noncomputable def isBare (bare : List Int) (k : Nat) : Bool := bare.any (· == (k : Int))
noncomputable def leadC (bare : List Int) (k : Nat) : List Nat := if isBare bare k = true then [] else [32]
noncomputable def endC (turn : Int) (k : Nat) : List Nat := (endP turn k).cps.toList
noncomputable def rowC (k d : Nat) : List Nat := (rowS k d).cps.toList
theorem leadP_toList (bare : List Int) (k : Nat) : (leadP bare k).cps.toList = leadC bare k := by
  unfold leadP leadC isBare
  split
  · decide +kernel
  · decide +kernel
theorem ends_all : ∀ i < 3, (endsL.getD i "").cps.toList = [10] ∨ (endsL.getD i "").cps.toList = [13] ∨ (endsL.getD i "").cps.toList = [13, 10] := by decide +kernel
theorem endC_all (turn : Int) (k : Nat) : endC turn k = [10] ∨ endC turn k = [13] ∨ endC turn k = [13, 10] := by
  unfold endC endP
  refine ends_all _ ?_
  have h : 0 ≤ ((k : Int) * (k : Int) + turn).fmod 3 ∧ ((k : Int) * (k : Int) + turn).fmod 3 < 3 := by
    rw [Int.fmod_eq_emod_of_nonneg _ (by omega)]
    exact ⟨Int.emod_nonneg _ (by decide), Int.emod_lt_of_pos _ (by decide)⟩
  omega
theorem rowC_eq (k d : Nat) : rowC k d = List.replicate d 46 ++ (marksS.getD k "").cps.toList := by
  unfold rowC rowS dots
  rw [Str.cps_append, Array.toList_append]
theorem rowC_succ (k d : Nat) : rowC k (d + 1) = 46 :: rowC k d := by rw [rowC_eq, rowC_eq, List.replicate_succ]; rfl
theorem marks_plain : ∀ k < 5, ∀ c ∈ (marksS.getD k "").cps.toList, c ≠ 10 ∧ c ≠ 13 := by decide +kernel
theorem rowC_plain {k d : Nat} (hk : k < 5) : ∀ c ∈ rowC k d, c ≠ 10 ∧ c ≠ 13 := fun c hc => by
  rw [rowC_eq] at hc
  rcases List.mem_append.mp hc with h | h
  · have := (List.mem_replicate.mp h).2
    subst this; decide
  · exact marks_plain k hk c h
theorem rowC_len {k d : Nat} (hk : k < 5) : (rowC k d).length = d + 2 := by
  rw [rowC_eq, List.length_append, List.length_replicate]
  have : ∀ k < 5, (marksS.getD k "").cps.toList.length = 2 := by decide +kernel
  rw [this k hk]
theorem rowS_length {k d : Nat} (hk : k < 5) : (rowS k d).length = d + 2 := by
  have := rowC_len (d := d) hk
  unfold rowC at this
  rw [← this]; simp [Str.length]

noncomputable def lineC (d : Nat → Nat) (bare : List Int) (k : Nat) : List Nat := leadC bare k ++ rowC k (d k)
theorem lineC_head {d : Nat → Nat} {bare : List Int} {k : Nat} (hd : 1 ≤ d k) : ∃ c r, lineC d bare k = c :: r ∧ c ≠ 10 := by
  obtain ⟨e, he⟩ : ∃ e, d k = e + 1 := ⟨d k - 1, by omega⟩
  unfold lineC leadC
  rw [he, rowC_succ]
  split
  · exact ⟨46, _, rfl, by decide⟩
  · exact ⟨32, _, rfl, by decide⟩
theorem lineC_plain {d : Nat → Nat} {bare : List Int} {k : Nat} (hk : k < 5) : ∀ c ∈ lineC d bare k, c ≠ 10 ∧ c ≠ 13 := fun c hc => by
  unfold lineC at hc
  rcases List.mem_append.mp hc with h | h
  · unfold leadC at h
    split at h
    · simp at h
    · have : c = 32 := by simpa using h
      subst this; decide
  · exact rowC_plain hk c h
noncomputable def mailC (d : Nat → Nat) (bare : List Int) (turn : Int) (ks : List Nat) : List (List Nat × List Nat) := ks.map fun k => (lineC d bare k, endC turn k)
theorem mailC_head {d : Nat → Nat} {bare : List Int} {turn : Int} (hd : ∀ k < 5, 1 ≤ d k) : ∀ ks : List Nat, (∀ k ∈ ks, k < 5) → (mailL (mailC d bare turn ks)).getD 0 0 ≠ 10
  | [], _ => (by decide : ([] : List Nat).getD 0 0 ≠ 10)
  | k :: r, h => by
    obtain ⟨c, t, e, hc⟩ := lineC_head (d := d) (bare := bare) (hd k (h k (.head _)))
    show (lineC d bare k ++ endC turn k ++ _).getD 0 0 ≠ 10
    rw [e]
    exact hc
theorem mailC_ok {d : Nat → Nat} {bare : List Int} {turn : Int} (hd : ∀ k < 5, 1 ≤ d k) : ∀ ks : List Nat, (∀ k ∈ ks, k < 5) → mailOk (mailC d bare turn ks)
  | [], _ => trivial
  | k :: r, h => by
    refine ⟨lineC_plain (h k (.head _)), ?_, mailC_ok hd r fun x hx => h x (.tail _ hx)⟩
    have hh := mailC_head (bare := bare) (turn := turn) hd r fun x hx => h x (.tail _ hx)
    show IsEol (endC turn k) (mailL (mailC d bare turn r))
    rcases endC_all turn k with e | e | e
    · rw [e]; exact .nl _
    · rw [e]; exact .cr _ hh
    · rw [e]; exact .crnl _
theorem mailC_flat (d : Nat → Nat) (bare : List Int) (turn : Int) : ∀ ks : List Nat, mailL (mailC d bare turn ks) = (ks.map fun k => lineC d bare k ++ endC turn k).flatten
  | [] => rfl
  | k :: r => by
    show lineC d bare k ++ endC turn k ++ mailL (mailC d bare turn r) = _
    rw [mailC_flat d bare turn r]; simp
theorem mailP_toList (d : Nat → Nat) (bare : List Int) (turn : Int) : (mailP (rowsS d) bare turn).cps.toList = mailL (mailC d bare turn (List.range 5)) := by
  unfold mailP
  rw [join_toList, show ("" : Str).cps.toList = [] by decide +kernel, joinL_nil, mailC_flat, List.map_map]
  congr 1
  refine List.map_congr_left fun k hk => ?_
  have hk5 : k < 5 := by simpa using hk
  show (lineP (rowsS d) bare turn k).cps.toList = _
  unfold lineP lineC endC rowC
  rw [Str.cps_append, Array.toList_append, Str.cps_append, Array.toList_append, leadP_toList]
  have : (rowsS d).getD k "" = rowS k (d k) := by simp [rowsS, List.getD, hk5]
  rw [this]
theorem mailC_size (d : Nat → Nat) (bare : List Int) (turn : Int) : ∀ ks : List Nat, ks.length ≤ (mailL (mailC d bare turn ks)).length
  | [] => Nat.zero_le _
  | k :: r => by
    have := mailC_size d bare turn r
    show r.length + 1 ≤ (lineC d bare k ++ endC turn k ++ mailL (mailC d bare turn r)).length
    have h1 : 1 ≤ (endC turn k).length := by rcases endC_all turn k with e | e | e <;> rw [e] <;> decide
    rw [List.length_append, List.length_append]; omega
theorem dot1_plain {l : List Nat} (h : ∀ c ∈ l, c ≠ 10 ∧ c ≠ 13) : ∀ c ∈ dot1 l, c ≠ 10 ∧ c ≠ 13 := by
  cases l with
  | nil => exact h
  | cons a r =>
    intro c hc
    have e : dot1 (a :: r) = if a = 46 then 46 :: 46 :: r else a :: r := rfl
    rw [e] at hc
    split at hc
    · rename_i ha
      rcases List.mem_cons.mp hc with rfl | hc
      · decide
      · exact h c (ha ▸ hc)
    · exact h c hc
theorem dot1_len (l : List Nat) : (dot1 l).length ≤ l.length + 1 := by
  cases l with
  | nil => simp [dot1]
  | cons a r =>
    have e : dot1 (a :: r) = if a = 46 then 46 :: 46 :: r else a :: r := rfl
    rw [e]
    split <;> simp
noncomputable def cutS (d : Nat → Nat) (bare : List Int) : List Str := (List.range 5).map fun k => mkS (dot1 (lineC d bare k))

theorem sent_ok {d : Nat → Nat} {bare : List Int} {turn : Int} (hd : ∀ k < 5, 1 ≤ d k ∧ d k ≤ 30) : SentOk (rowsS d) bare turn (rowsS fun k => d k + if isBare bare k = true then 1 else 0) where
  len := by simp [rowsS]
  short := fun r hr => by
    obtain ⟨k, hk, rfl⟩ := List.mem_map.mp hr
    have hk5 : k < 5 := by simpa using hk
    rw [rowS_length hk5]; have := hd k hk5; omega
  cut := by
    refine ⟨cutS d bare, ?_, by simp [cutS], fun s hs => ?_, ?_⟩
    · have e1 := mailP_toList d bare turn
      have ho := mailC_ok (bare := bare) (turn := turn) (fun k hk => (hd k hk).1) (List.range 5) (fun k hk => by simpa using hk)
      have e2 : (eolS (mailP (rowsS d) bare turn)).cps.toList = crlfL (mailC d bare turn (List.range 5)) := by
        refine eolS_lines e1 ho ?_
        have := mailC_size d bare turn (List.range 5)
        rw [← e1] at this
        simpa [mailC] using this
      have e3 : (dotS (eolS (mailP (rowsS d) bare turn))).cps.toList = joinL [13, 10] ((List.range 5).map (fun k => dot1 (lineC d bare k)) ++ [[]]) := by
        rw [dotS_toList, e2, dotL_all]
        · unfold mailC; rw [List.map_map]; rfl
        · intro p hp
          unfold mailC at hp
          obtain ⟨k, hk, rfl⟩ := List.mem_map.mp hp
          exact fun q => (lineC_plain (by simpa using hk) 10 q).1 rfl
      have hy : ("\r\n" : Str).cps.toList = [13, 10] := by decide +kernel
      rw [split_segs (y := "\r\n") (ps := (List.range 5).map (fun k => dot1 (lineC d bare k)) ++ [[]]) (by decide +kernel) (by decide +kernel) (by rw [hy]; exact e3) (by
        rw [hy]
        refine segOk_free _ (by simp) fun p hp => ?_
        rcases List.mem_append.mp hp with h | h
        · obtain ⟨k, hk, rfl⟩ := List.mem_map.mp h
          exact fun q => (dot1_plain (lineC_plain (by simpa using hk)) 13 q).2 rfl
        · have : p = [] := by simpa using h
          subst this; simp)]
      rw [List.map_append, List.map_map]
      rfl
    · unfold cutS at hs
      obtain ⟨k, hk, rfl⟩ := List.mem_map.mp hs
      have hk5 : k < 5 := by simpa using hk
      have h1 := dot1_len (lineC d bare k)
      have h2 : (mkS (dot1 (lineC d bare k))).length = (dot1 (lineC d bare k)).length := by simp [mkS, Str.length]
      have h3 : (lineC d bare k).length ≤ 1 + (d k + 2) := by
        unfold lineC
        rw [List.length_append, rowC_len hk5]
        unfold leadC
        split <;> simp
      have := hd k hk5
      rw [h2]; omega
    · unfold cutP rowsS
      refine List.map_congr_left fun k hk => ?_
      have hk5 : k < 5 := by simpa using hk
      have hg : (cutS d bare).getD k "" = mkS (dot1 (lineC d bare k)) := by simp [cutS, List.getD, hk5]
      rw [hg]
      obtain ⟨e, he⟩ : ∃ e, d k = e + 1 := ⟨d k - 1, by have := hd k hk5; omega⟩
      have hlen : ∀ l : List Nat, (mkS l).length = l.length := fun l => by simp [mkS, Str.length]
      have hto : ∀ l : List Nat, (mkS l).cps.toList = l := fun l => by simp [mkS]
      have hl : (leadP bare k).length = (leadC bare k).length := by
        rw [← leadP_toList]; simp [Str.length]
      rw [hl]
      show rowS k (d k + if isBare bare k = true then 1 else 0) = _
      cases hb : isBare bare k with
      | true =>
        rw [if_pos rfl]
        have h0 : leadC bare k = [] := by unfold leadC; rw [hb, if_pos rfl]
        have h1 : lineC d bare k = rowC k (d k) := by unfold lineC; rw [h0]; rfl
        rw [h0, slice_drop (n := ([] : List Nat).length) (Nat.zero_le _), hto, h1, he, rowC_succ]
        show rowS k (e + 1 + 1) = mkS (dot1 (46 :: rowC k e))
        rw [← mkS_toList (rowS k (e + 1 + 1))]
        congr 1
        show rowC k (e + 1 + 1) = _
        rw [rowC_succ, rowC_succ]; rfl
      | false =>
        rw [if_neg (by decide)]
        have h0 : leadC bare k = [32] := by unfold leadC; rw [hb, if_neg (by decide)]
        have h1 : lineC d bare k = 32 :: rowC k (d k) := by unfold lineC; rw [h0]; rfl
        have h2 : dot1 (lineC d bare k) = 32 :: rowC k (d k) := by rw [h1]; rfl
        rw [h0, h2, slice_drop (by rw [hlen]; simp), hto]
        show rowS k (d k + 0) = mkS (rowC k (d k))
        exact (mkS_toList _).symm

-- P6
set_option maxRecDepth 100000
theorem str_beq (a b : Str) : (a == b) = decide (a = b) := by
  by_cases h : a = b
  · subst h; simp
  · rw [decide_eq_false h]; simp [h]

/-! ### words -/
noncomputable def bitN (N g : Nat) : Bool := N / 2 ^ g % 2 == 1
noncomputable def wordsL (N sh : Nat) : List Str := ((List.range 10).filter (bitN N)).map fun p => wordP (sh + p)
theorem wordsA_eq (N sh hi : Nat) : wordsA N sh hi = wordsL N sh ++ (if 0 < hi then [topW hi] else []) := rfl
theorem testBit_bitN (N g : Nat) : N.testBit g = bitN N g := by
  rw [bit_iff]
  unfold bitN
  by_cases h : N / 2 ^ g % 2 = 1
  · rw [decide_eq_true h, h]; rfl
  · rw [decide_eq_false h]
    have : N / 2 ^ g % 2 = 0 := by omega
    rw [this]; rfl
theorem bitN_big {N g : Nat} (hN : N < 1024) (hg : 10 ≤ g) : bitN N g = false := by
  unfold bitN
  rw [Nat.div_eq_of_lt (Nat.lt_of_lt_of_le hN (by rw [show 1024 = 2 ^ 10 from rfl]; exact Nat.pow_le_pow_right (by decide) hg))]; rfl
theorem low_lt {N sh : Nat} (hN : N < 1024) (hs : sh < 23) : N * 2 ^ sh < 2 ^ 32 := by
  have h1 : 2 ^ sh ≤ 2 ^ 22 := Nat.pow_le_pow_right (by decide) (by omega)
  have h2 : N * 2 ^ sh ≤ 1023 * 2 ^ 22 := Nat.mul_le_mul (by omega) h1
  exact Nat.lt_of_le_of_lt h2 (by decide)
theorem whole_bit {N sh hi i : Nat} (hN : N < 1024) (hs : sh < 23) (hi32 : i < 32) : (N * 2 ^ sh + hi * 2 ^ 32).testBit i = (decide (sh ≤ i) && bitN N (i - sh)) := by
  rw [Nat.add_comm, Nat.mul_comm hi, Nat.testBit_two_pow_mul_add hi (low_lt hN hs), if_pos hi32, Nat.mul_comm N, Nat.testBit_two_pow_mul, testBit_bitN]
theorem wordsTo_whole {N sh hi : Nat} (hN : N < 1024) (hs : sh < 23) : wordsTo (N * 2 ^ sh + hi * 2 ^ 32) 32 = wordsL N sh := by
  unfold wordsTo wordsL
  have e0 : (List.range 32).filter (fun i => (N * 2 ^ sh + hi * 2 ^ 32).testBit i) = (List.range 32).filter (fun i => decide (sh ≤ i) && bitN N (i - sh)) := by
    refine List.filter_congr fun i hi' => ?_
    exact whole_bit hN hs (by simpa using hi')
  have e1 : (32 : Nat) = sh + (10 + (22 - sh)) := by omega
  have f1 : (List.range sh).filter (fun i => decide (sh ≤ i) && bitN N (i - sh)) = [] := by
    rw [List.filter_eq_nil_iff]
    intro i hi'
    have : i < sh := by simpa using hi'
    rw [decide_eq_false (by omega)]; simp
  have f2 : ((List.range (22 - sh)).map fun x => sh + (10 + x)).filter (fun i => decide (sh ≤ i) && bitN N (i - sh)) = [] := by
    rw [List.filter_eq_nil_iff]
    intro i hi'
    obtain ⟨x, _, rfl⟩ := List.mem_map.mp hi'
    rw [show sh + (10 + x) - sh = 10 + x by omega, bitN_big hN (by omega)]; simp
  have f3 : ((List.range 10).map fun x => sh + x).filter (fun i => decide (sh ≤ i) && bitN N (i - sh)) = ((List.range 10).filter (bitN N)).map fun x => sh + x := by
    rw [List.filter_map]
    congr 1
    refine List.filter_congr fun x _ => ?_
    show (decide (sh ≤ sh + x) && bitN N (sh + x - sh)) = bitN N x
    rw [decide_eq_true (by omega), show sh + x - sh = x by omega, Bool.true_and]
  have e2 : (List.range 32).filter (fun i => decide (sh ≤ i) && bitN N (i - sh)) = ((List.range 10).filter (bitN N)).map fun x => sh + x := by
    rw [show List.range 32 = List.range (sh + (10 + (22 - sh))) by rw [← e1], List.range_add, List.filter_append, f1, List.nil_append, List.range_add, List.map_append, List.filter_append, f3, List.map_map]
    have : ((List.range (22 - sh)).map ((fun x => sh + x) ∘ fun x => 10 + x)).filter (fun i => decide (sh ≤ i) && bitN N (i - sh)) = [] := f2
    rw [this, List.append_nil]
  rw [e0, e2, List.map_map]; rfl
theorem top_text : ∀ h < 4, baseText "0x" 16 (((2 ^ 32 * h : Nat)) : Int) = if h = 0 then ("0x0" : Str) else topW h := by decide +kernel
theorem some_bit : ∀ N < 1024, N = 0 ∨ (List.range 10).any (bitN N) = true := by decide +kernel
theorem wordsL_zero (sh : Nat) : wordsL 0 sh = [] := by
  unfold wordsL
  rw [show (List.range 10).filter (bitN 0) = [] by decide]; rfl
theorem wordsL_ne {N sh : Nat} (hN : N < 1024) (h0 : N ≠ 0) : wordsL N sh ≠ [] := fun h => by
  rcases some_bit N hN with q | q
  · exact h0 q
  · unfold wordsL at h
    rw [List.map_eq_nil_iff, List.filter_eq_nil_iff] at h
    obtain ⟨x, hx, hb⟩ := List.any_eq_true.mp q
    exact h x hx hb
theorem clr_whole {N sh hi : Nat} (hN : N < 1024) (hs : sh < 23) : clr (N * 2 ^ sh + hi * 2 ^ 32) 32 = 2 ^ 32 * hi := by
  unfold clr
  rw [Nat.add_mul_div_right _ _ (by decide), Nat.div_eq_of_lt (low_lt hN hs), Nat.zero_add]
theorem pretty_whole {N sh hi : Nat} (hN : N < 1024) (hs : sh < 23) (hh : hi < 4) : prettyL (N * 2 ^ sh + hi * 2 ^ 32) = if wordsA N sh hi = [] then [("0x0" : Str)] else wordsA N sh hi := by
  unfold prettyL
  rw [wordsTo_whole hN hs, clr_whole hN hs, top_text hi hh, wordsA_eq]
  by_cases h0 : hi = 0
  · subst h0
    rw [if_neg (show ¬ 0 < 0 by omega), List.append_nil]
    by_cases hN0 : N = 0
    · subst hN0
      rw [wordsL_zero, if_pos rfl, if_pos (by left; omega)]; rfl
    · have hp : 0 < N * 2 ^ sh := Nat.mul_pos (by omega) (Nat.pow_pos (by decide))
      have hl := low_lt hN hs
      rw [if_neg (by omega), if_neg (wordsL_ne hN hN0), List.append_nil]
  · rw [if_pos (show 0 < hi by omega), if_pos (by right; omega), if_neg h0, if_neg (by simp)]

theorem word_len : ∀ a < 32, (wordP a).length ≤ 40 := by decide +kernel
theorem word_free : ∀ a < 32, 44 ∉ (wordP a).cps.toList := by decide +kernel
theorem word_inj : ∀ a < 32, ∀ b < 32, (wordP a == wordP b) = (a == b) := by decide +kernel
theorem top_len : ∀ h < 4, (topW h).length ≤ 40 := by decide +kernel
theorem top_free : ∀ h < 4, 44 ∉ (topW h).cps.toList := by decide +kernel
theorem top_word : ∀ h < 4, ∀ b < 32, (topW h == wordP b) = false := by decide +kernel
theorem zero_word : ∀ b < 32, (("0x0" : Str) == wordP b) = false := by decide +kernel

theorem wordsA_all {N sh hi : Nat} (hs : sh < 23) (hh : hi < 4) {P : Str → Prop} (h1 : ∀ a < 32, P (wordP a)) (h2 : P (topW hi)) : ∀ x ∈ wordsA N sh hi, P x := fun x hx => by
  rw [wordsA_eq] at hx
  rcases List.mem_append.mp hx with h | h
  · obtain ⟨p, hp, rfl⟩ := List.mem_map.mp h
    have : p < 10 := by simpa using (List.mem_filter.mp hp).1
    exact h1 _ (by omega)
  · split at h
    · have : x = topW hi := by simpa using h
      rw [this]; exact h2
    · simp at h
theorem pretty_all {N sh hi : Nat} (hN : N < 1024) (hs : sh < 23) (hh : hi < 4) {P : Str → Prop} (h1 : ∀ a < 32, P (wordP a)) (h2 : P (topW hi)) (h3 : P "0x0") : ∀ x ∈ prettyL (N * 2 ^ sh + hi * 2 ^ 32), P x := fun x hx => by
  rw [pretty_whole hN hs hh] at hx
  split at hx
  · have : x = "0x0" := by simpa using hx
    rw [this]; exact h3
  · exact wordsA_all hs hh h1 h2 x hx
theorem wordsA_len {N sh hi : Nat} : (wordsA N sh hi).length ≤ 11 := by
  rw [wordsA_eq, List.length_append]
  have : (wordsL N sh).length ≤ 10 := by
    unfold wordsL
    rw [List.length_map]; exact Nat.le_trans (List.length_filter_le _ _) (by simp)
  split <;> simp <;> omega
theorem pretty_len {N sh hi : Nat} (hN : N < 1024) (hs : sh < 23) (hh : hi < 4) : (prettyL (N * 2 ^ sh + hi * 2 ^ 32)).length ≤ 11 := by
  rw [pretty_whole hN hs hh]
  split
  · simp
  · exact wordsA_len
theorem sum_le {l : List Str} {k : Nat} (h : ∀ x ∈ l, x.length ≤ k) : (l.map (·.length)).sum ≤ l.length * k := by
  induction l with
  | nil => simp
  | cons a r ih =>
    have h1 := h a (.head _)
    have h2 := ih fun x hx => h x (.tail _ hx)
    rw [List.map_cons, List.sum_cons, List.length_cons, Nat.add_mul]; omega
theorem sep_len : (", " : Str).length = 2 := by decide +kernel
theorem join_small {l : List Str} (h1 : l.length ≤ 11) (h2 : ∀ x ∈ l, x.length ≤ 40) : JoinOk ", " l = true ∧ (Txt.join ", " l).length ≤ 100000 := by
  have h3 := sum_le h2
  have h4 : l.length * 40 ≤ 440 := by omega
  constructor
  · unfold JoinOk
    rw [Bool.not_eq_true']
    have e : l.toArray.foldl (fun (x1 : Nat) (x2 : Str) => x1 + x2.length + (", " : Str).length) 0 = (l.map (·.length)).sum + l.length * (", " : Str).length := StrLaws.joinTotal ", " l
    show PySem.Builtin.Str.tooLong (l.toArray.foldl (fun (x1 : Nat) (x2 : Str) => x1 + x2.length + (", " : Str).length) 0) = false
    rw [e, sep_len]
    unfold PySem.Builtin.Str.tooLong
    have : sizeLine = 2 ^ 24 := rfl
    rw [decide_eq_false]
    omega
  · rw [txtJoin_eq]
    have := StrLaws.join_length_le ", " l
    rw [sep_len] at this
    omega
theorem split_join {l : List Str} (hl : l ≠ []) (h : ∀ x ∈ l, 44 ∉ x.cps.toList) : Txt.split (Txt.join ", " l) ", " = l := by
  have hy : (", " : Str).cps.toList = [44, 32] := by decide +kernel
  rw [split_segs (y := ", ") (ps := l.map (·.cps.toList)) (by rw [sep_len]; decide) (by decide +kernel) (join_toList ", " l) (by
    rw [hy]
    refine segOk_free _ (by simpa using hl) fun p hp => ?_
    obtain ⟨x, hx, rfl⟩ := List.mem_map.mp hp
    exact h x hx)]
  rw [List.map_map]
  conv => rhs; rw [← List.map_id l]
  exact List.map_congr_left fun x _ => mkS_toList x
theorem pretty_ne {N sh hi : Nat} (hN : N < 1024) (hs : sh < 23) (hh : hi < 4) : prettyL (N * 2 ^ sh + hi * 2 ^ 32) ≠ [] := by
  rw [pretty_whole hN hs hh]
  split
  · simp
  · assumption
theorem word_in {N sh hi g : Nat} (hN : N < 1024) (hs : sh < 23) (hh : hi < 4) (hg : g < 10) : (prettyL (N * 2 ^ sh + hi * 2 ^ 32)).any (· == wordP (sh + g)) = bitN N g := by
  have key : (wordsA N sh hi).any (· == wordP (sh + g)) = bitN N g := by
    rw [wordsA_eq, List.any_append]
    have h1 : (wordsL N sh).any (· == wordP (sh + g)) = bitN N g := by
      unfold wordsL
      rw [List.any_map]
      cases hb : bitN N g with
      | true =>
        rw [List.any_eq_true]
        exact ⟨g, List.mem_filter.mpr ⟨by simpa using hg, hb⟩, by show (wordP (sh + g) == wordP (sh + g)) = true; rw [word_inj _ (by omega) _ (by omega)]; simp⟩
      | false =>
        rw [List.any_eq_false]
        intro p hp q
        obtain ⟨p1, p2⟩ := List.mem_filter.mp hp
        have p1 : p < 10 := by simpa using p1
        have q : (wordP (sh + p) == wordP (sh + g)) = true := q
        rw [word_inj _ (by omega) _ (by omega), beq_iff_eq] at q
        have : p = g := by omega
        subst this
        rw [hb] at p2; cases p2
    have h2 : (if 0 < hi then [topW hi] else []).any (· == wordP (sh + g)) = false := by
      split
      · rw [List.any_cons, List.any_nil, top_word hi hh _ (by omega)]; rfl
      · rfl
    rw [h1, h2, Bool.or_false]
  rw [pretty_whole hN hs hh]
  split
  · rename_i he
    rw [← key, he, List.any_cons, List.any_nil, zero_word _ (by omega)]; rfl
  · exact key

-- P7
set_option maxRecDepth 100000
/-! ### who has won -/
noncomputable def gIdx (i j : Nat) : Nat := (gameP (i : Nat) (j : Nat)).toNat
noncomputable def bareN (N f : Nat) : List Int := [1, 2].map fun s => if bitN N (gIdx (iP f s) (jP f s)) = true then (jP f s : Int) else (iP f s : Int)
noncomputable def wf (N : Nat) : Nat → Nat → Nat
  | 0, _ => 0
  | f + 1, k => wf N f k + if isBare (bareN N f) k = true then 1 else 0
noncomputable def dN (N k : Nat) : Nat := 2 + wf N 5 k
theorem gIdx_lt : ∀ f : Nat, f < 5 → ∀ s ∈ ([1, 2] : List Nat), gIdx (iP f s) (jP f s) < 10 := by decide +kernel
theorem ij_ne : ∀ f : Nat, f < 5 → ∀ s ∈ ([1, 2] : List Nat), ((jP f s : Nat) : Int) ≠ ((f : Nat) : Int) ∧ ((iP f s : Nat) : Int) ≠ ((f : Nat) : Int) := by decide +kernel
theorem bare_eq {N sh hi f : Nat} (hN : N < 1024) (hs : sh < 23) (hh : hi < 4) (hf : f < 5) : bareP (prettyL (N * 2 ^ sh + hi * 2 ^ 32)) sh f = bareN N f := by
  unfold bareP bareN
  refine List.map_congr_left fun s hs' => ?_
  have hw := word_in hN hs hh (gIdx_lt f hf s hs')
  unfold pickP
  unfold gIdx at hw ⊢
  rw [hw]
theorem bare_self {N f : Nat} (hf : f < 5) : isBare (bareN N f) f = false := by
  unfold isBare bareN
  rw [List.any_eq_false]
  intro x hx
  obtain ⟨s, hs, rfl⟩ := List.mem_map.mp hx
  have h := ij_ne f hf s hs
  simp only [beq_iff_eq]
  split
  · exact h.1
  · exact h.2
theorem add_if_le {c : Prop} [Decidable c] {w f g : Nat} (h : w ≤ g) (hg : g + 1 = f) : w + (if c then 1 else 0) ≤ f := by
  subst hg
  exact Nat.add_le_add h (by split <;> decide)
theorem wf_le (N : Nat) : ∀ f k, wf N f k ≤ f ∧ (f ≤ 5 → k < f → wf N f k ≤ f - 1)
  | 0, k => ⟨Nat.zero_le _, fun _ h => absurd h (Nat.not_lt_zero _)⟩
  | f + 1, k => by
    obtain ⟨a, b⟩ := wf_le N f k
    refine ⟨?_, fun h5 hk => ?_⟩
    · show wf N f k + (if isBare (bareN N f) k = true then 1 else 0) ≤ f + 1
      exact add_if_le a rfl
    · show wf N f k + (if isBare (bareN N f) k = true then 1 else 0) ≤ f + 1 - 1
      by_cases hkf : k = f
      · subst hkf
        rw [bare_self h5, if_neg (by decide)]; exact a
      · have hlt : k < f := Nat.lt_of_le_of_ne (Nat.le_of_lt_succ hk) hkf
        exact add_if_le (b (Nat.le_of_succ_le h5) hlt) (Nat.sub_add_cancel (Nat.zero_lt_of_lt hlt))
theorem dN_lt (N : Nat) : ∀ k < 5, 2 ≤ dN N k ∧ dN N k ≤ 6 := fun k hk => by
  have := (wf_le N 5 k).2 (by omega) hk
  unfold dN; omega
noncomputable def rN (N f : Nat) : List Str := if f ≤ 5 then rowsS (fun k => 1 + wf N f k) else rowsS (dN N)
theorem rowsS_congr {d d' : Nat → Nat} (h : ∀ k < 5, d k = d' k) : rowsS d = rowsS d' := by
  unfold rowsS
  exact List.map_congr_left fun k hk => by rw [h k (by simpa using hk)]
theorem all_bare : ∀ k < 5, isBare [0, 1, 2, 3, 4] k = true := by decide +kernel
theorem first_rows : rowsS (fun _ => 1) = marksS.map fun m => ("." : Str) ++ m := by decide +kernel
theorem round_ok {N f : Nat} {turn : Int} (hf : f < 5) : SentOk (rN N f) (bareN N f) turn (rN N (f + 1)) := by
  unfold rN
  rw [if_pos (by omega), if_pos (by omega)]
  have h := sent_ok (d := fun k => 1 + wf N f k) (bare := bareN N f) (turn := turn) fun k hk => by
    have := (wf_le N f k).1
    show 1 ≤ 1 + wf N f k ∧ 1 + wf N f k ≤ 30
    omega
  have e : rowsS (fun k => 1 + wf N f k + if isBare (bareN N f) k = true then 1 else 0) = rowsS (fun k => 1 + wf N (f + 1) k) := rowsS_congr fun k _ => by
    show 1 + wf N f k + _ = 1 + (wf N f k + _)
    omega
  rw [← e]; exact h
theorem last_ok {N : Nat} {turn : Int} : SentOk (rN N 5) [0, 1, 2, 3, 4] turn (rN N 6) := by
  unfold rN
  rw [if_pos (by omega), if_neg (by omega)]
  have h := sent_ok (d := fun k => 1 + wf N 5 k) (bare := [0, 1, 2, 3, 4]) (turn := turn) fun k hk => by
    have := (wf_le N 5 k).1
    show 1 ≤ 1 + wf N 5 k ∧ 1 + wf N 5 k ≤ 30
    omega
  have e : rowsS (fun k => 1 + wf N 5 k + if isBare [0, 1, 2, 3, 4] k = true then 1 else 0) = rowsS (dN N) := rowsS_congr fun k hk => by
    rw [all_bare k hk, if_pos rfl]
    unfold dN; omega
  rw [← e]; exact h

/-! ### the distances -/
noncomputable def levChk (i j : Nat) : Prop := ∀ x < 5, ∀ y < 5, ∀ z < 3, levO (rowS i (x + 2)) (rowS j (y + 2)) (dueZ i j (x + 2) (y + 2) + ((z : Nat) : Int) - 1) = some (dueZ i j (x + 2) (y + 2))
theorem lev01 : levChk 0 1 := lev_ok
theorem lev02 : levChk 0 2 := by unfold levChk; decide +kernel
theorem lev03 : levChk 0 3 := by unfold levChk; decide +kernel
theorem lev04 : levChk 0 4 := by unfold levChk; decide +kernel
theorem lev12 : levChk 1 2 := by unfold levChk; decide +kernel
theorem lev13 : levChk 1 3 := by unfold levChk; decide +kernel
theorem lev14 : levChk 1 4 := by unfold levChk; decide +kernel
theorem lev23 : levChk 2 3 := by unfold levChk; decide +kernel
theorem lev24 : levChk 2 4 := by unfold levChk; decide +kernel
theorem lev34 : levChk 3 4 := by unfold levChk; decide +kernel
theorem lev_all : ∀ p ∈ gamesZ, levChk p.1 p.2 := by
  have e : gamesZ = [(0, 1), (0, 2), (0, 3), (0, 4), (1, 2), (1, 3), (1, 4), (2, 3), (2, 4), (3, 4)] := by decide +kernel
  rw [e]
  simp only [List.forall_mem_cons]
  exact ⟨lev01, lev02, lev03, lev04, lev12, lev13, lev14, lev23, lev24, lev34, fun _ h => nomatch h⟩
theorem lev_fact {N : Nat} : ∀ p ∈ gamesZ, ∀ z < 3, levO (rowS p.1 (dN N p.1)) (rowS p.2 (dN N p.2)) (dueZ p.1 p.2 (dN N p.1) (dN N p.2) + ((z : Nat) : Int) - 1) = some (dueZ p.1 p.2 (dN N p.1) (dN N p.2)) := fun p hp z hz => by
  have hg : ∀ p ∈ gamesZ, p.1 < 5 ∧ p.2 < 5 := by decide +kernel
  obtain ⟨h1, h2⟩ := hg p hp
  obtain ⟨a1, a2⟩ := dN_lt N p.1 h1
  obtain ⟨b1, b2⟩ := dN_lt N p.2 h2
  have := lev_all p hp (dN N p.1 - 2) (by omega) (dN N p.2 - 2) (by omega) z hz
  rwa [show dN N p.1 - 2 + 2 = dN N p.1 by omega, show dN N p.2 - 2 + 2 = dN N p.2 by omega] at this

-- P8
set_option maxRecDepth 100000
/-! ### the rings and the rounds, over numbers without a sign -/
noncomputable def tripN : List (Nat × Nat) := [(17, 2), (33, 4), (130, 4), (144, 32), (65, 8), (258, 8), (272, 64), (516, 8), (544, 64), (640, 256)]
noncomputable def tab0 : List (Nat × Nat × List Nat) := [(4660, 0, [0]), (4675, 0, [1]), (4900, 0, [16]), (4915, 1, [2, 17]), (4930, 0, [3]), (5155, 0, [18]), (5170, 0, [19]), (8500, 0, [128]), (8515, 0, [129]), (8740, 1, [32, 144]), (8755, 2, [4, 33, 130, 145]), (8770, 1, [5, 131]), (8980, 0, [48]), (8995, 2, [20, 49, 146, 34]), (9010, 2, [6, 21, 35, 147]), (9025, 0, [7]), (9235, 0, [50]), (9250, 1, [22, 51]), (9265, 0, [23]), (12580, 0, [160]), (12595, 1, [132, 161]), (12610, 0, [133]), (12820, 0, [176]), (12835, 2, [36, 162, 148, 177]), (12850, 2, [37, 163, 149, 134]), (12865, 0, [135]), (13075, 1, [52, 178]), (13090, 2, [38, 53, 150, 179]), (13105, 1, [39, 151]), (13330, 0, [54]), (13345, 0, [55]), (16675, 0, [164]), (16690, 0, [165]), (16915, 0, [180]), (16930, 1, [166, 181]), (16945, 0, [167]), (17170, 0, [182]), (17185, 0, [183]), (66100, 0, [512]), (66115, 0, [513]), (66340, 0, [528]), (66355, 1, [514, 529]), (66370, 0, [515]), (66595, 0, [530]), (66610, 0, [531]), (69940, 1, [256, 640]), (69955, 1, [257, 641]), (70180, 2, [64, 272, 544, 656]), (70195, 3, [8, 65, 258, 516, 273, 545, 642, 657]), (70210, 2, [9, 259, 517, 643]), (70420, 1, [80, 560]), (70435, 3, [24, 81, 274, 532, 66, 561, 658, 546]), (70450, 3, [10, 25, 67, 518, 275, 533, 547, 659]), (70465, 1, [11, 519]), (70675, 1, [82, 562]), (70690, 2, [26, 83, 534, 563]), (70705, 1, [27, 535]), (73780, 0, [384]), (73795, 0, [385]), (74020, 2, [192, 400, 672, 288])]
noncomputable def tab1 : List (Nat × Nat × List Nat) := [(74035, 3, [136, 193, 386, 644, 401, 673, 260, 289]), (74050, 2, [137, 387, 645, 261]), (74260, 2, [96, 208, 304, 688]), (74275, 4, [40, 152, 97, 290, 548, 209, 402, 660, 68, 305, 674, 194, 689, 276]), (74290, 4, [12, 41, 138, 69, 262, 153, 291, 549, 195, 646, 277, 403, 661, 675]), (74305, 2, [13, 139, 263, 647]), (74500, 0, [112]), (74515, 3, [56, 113, 306, 564, 98, 84, 690, 210]), (74530, 4, [28, 57, 154, 85, 278, 42, 307, 565, 211, 662, 70, 99, 550, 691]), (74545, 3, [14, 29, 43, 71, 155, 279, 551, 663]), (74560, 0, [15]), (74755, 0, [114]), (74770, 2, [58, 115, 566, 86]), (74785, 2, [30, 59, 87, 567]), (74800, 0, [31]), (77860, 0, [416]), (77875, 1, [388, 417]), (77890, 0, [389]), (78100, 1, [224, 432]), (78115, 3, [168, 225, 418, 676, 196, 433, 292, 404]), (78130, 3, [140, 169, 197, 390, 419, 677, 405, 293]), (78145, 1, [141, 391]), (78340, 0, [240]), (78355, 3, [100, 226, 212, 308, 241, 434, 692, 184]), (78370, 4, [44, 170, 156, 101, 294, 185, 227, 678, 213, 406, 309, 435, 693, 198]), (78385, 3, [45, 171, 157, 295, 142, 679, 407, 199]), (78400, 0, [143]), (78595, 1, [116, 242]), (78610, 3, [60, 186, 117, 310, 243, 694, 102, 214]), (78625, 3, [46, 61, 158, 103, 187, 311, 215, 695]), (78640, 1, [47, 159]), (78850, 0, [118]), (78865, 1, [62, 119]), (78880, 0, [63]), (81955, 0, [420]), (81970, 0, [421]), (82195, 1, [228, 436]), (82210, 2, [172, 229, 422, 437]), (82225, 1, [173, 423]), (82435, 0, [244]), (82450, 2, [188, 245, 438, 230]), (82465, 2, [174, 189, 231, 439]), (82480, 0, [175]), (82690, 0, [246]), (82705, 1, [190, 247]), (82720, 0, [191]), (131380, 0, [768]), (131395, 0, [769]), (131620, 1, [576, 784]), (131635, 2, [520, 577, 770, 785]), (131650, 1, [521, 771]), (131860, 0, [592]), (131875, 2, [536, 593, 786, 578]), (131890, 2, [522, 537, 579, 787]), (131905, 0, [523]), (132115, 0, [594]), (132130, 1, [538, 595]), (132145, 0, [539]), (135220, 0, [896]), (135235, 0, [897])]
noncomputable def tab2 : List (Nat × Nat × List Nat) := [(135460, 2, [320, 800, 704, 912]), (135475, 3, [264, 321, 772, 648, 801, 705, 898, 913]), (135490, 2, [265, 773, 649, 899]), (135700, 2, [336, 816, 720, 608]), (135715, 4, [72, 322, 280, 580, 552, 337, 802, 706, 788, 664, 609, 817, 721, 914]), (135730, 4, [73, 323, 281, 581, 553, 266, 803, 707, 789, 665, 524, 774, 650, 915]), (135745, 2, [267, 775, 651, 525]), (135940, 0, [624]), (135955, 3, [88, 338, 596, 568, 818, 722, 625, 610]), (135970, 4, [74, 89, 282, 582, 554, 339, 597, 569, 790, 666, 611, 819, 723, 540]), (135985, 3, [75, 283, 583, 555, 791, 667, 526, 541]), (136000, 0, [527]), (136195, 0, [626]), (136210, 2, [90, 598, 570, 627]), (136225, 2, [91, 599, 571, 542]), (136240, 0, [543]), (139300, 1, [448, 928]), (139315, 2, [392, 449, 900, 929]), (139330, 1, [393, 901]), (139540, 2, [352, 464, 736, 944]), (139555, 4, [200, 450, 408, 708, 680, 465, 324, 930, 296, 916, 737, 353, 945, 804]), (139570, 4, [201, 451, 409, 709, 681, 325, 394, 931, 297, 917, 652, 268, 805, 902]), (139585, 2, [269, 395, 653, 903]), (139780, 1, [368, 752]), (139795, 4, [104, 216, 354, 312, 612, 466, 724, 696, 369, 738, 820, 340, 946, 753]), (139810, 5, [76, 105, 202, 326, 284, 556, 217, 355, 313, 613, 410, 710, 682, 341, 806, 668, 467, 725, 697, 298, 739, 821, 918, 947]), (139825, 4, [77, 203, 327, 285, 557, 411, 711, 683, 270, 807, 669, 299, 919, 654]), (139840, 1, [271, 655]), (140035, 2, [120, 370, 628, 754]), (140050, 4, [92, 121, 218, 342, 572, 106, 371, 629, 726, 698, 822, 314, 614, 755]), (140065, 4, [78, 93, 107, 286, 558, 219, 343, 573, 315, 615, 670, 727, 699, 823]), (140080, 2, [79, 287, 559, 671]), (140290, 1, [122, 630]), (140305, 2, [94, 123, 574, 631]), (140320, 1, [95, 575]), (143380, 0, [480]), (143395, 2, [424, 481, 932, 452]), (143410, 2, [396, 425, 453, 933]), (143425, 0, [397]), (143620, 0, [496]), (143635, 3, [232, 482, 440, 740, 497, 356, 948, 468]), (143650, 4, [204, 233, 454, 412, 684, 483, 441, 741, 469, 934, 300, 357, 426, 949]), (143665, 3, [205, 455, 413, 685, 398, 935, 301, 427]), (143680, 0, [399]), (143875, 2, [248, 498, 756, 372]), (143890, 4, [108, 234, 220, 358, 316, 249, 442, 742, 470, 700, 373, 499, 757, 950]), (143905, 4, [109, 235, 221, 359, 317, 206, 443, 743, 471, 701, 302, 414, 686, 951]), (143920, 2, [207, 415, 687, 303]), (144130, 2, [124, 250, 374, 758]), (144145, 3, [110, 125, 222, 318, 251, 375, 702, 759]), (144160, 2, [111, 223, 319, 703]), (144385, 0, [126]), (144400, 0, [127]), (147475, 0, [484]), (147490, 1, [428, 485]), (147505, 0, [429]), (147715, 0, [500]), (147730, 2, [236, 486, 444, 501]), (147745, 2, [237, 487, 445, 430]), (147760, 0, [431])]
noncomputable def tab3 : List (Nat × Nat × List Nat) := [(147970, 1, [252, 502]), (147985, 2, [238, 253, 446, 503]), (148000, 1, [239, 447]), (148225, 0, [254]), (148240, 0, [255]), (196900, 0, [832]), (196915, 1, [776, 833]), (196930, 0, [777]), (197140, 0, [848]), (197155, 2, [584, 834, 792, 849]), (197170, 2, [585, 835, 793, 778]), (197185, 0, [779]), (197395, 1, [600, 850]), (197410, 2, [586, 601, 794, 851]), (197425, 1, [587, 795]), (197650, 0, [602]), (197665, 0, [603]), (200740, 0, [960]), (200755, 1, [904, 961]), (200770, 0, [905]), (200980, 1, [864, 976]), (200995, 3, [328, 836, 808, 712, 865, 962, 920, 977]), (201010, 3, [329, 837, 809, 713, 963, 780, 921, 906]), (201025, 1, [781, 907]), (201220, 0, [880]), (201235, 3, [344, 852, 824, 728, 881, 978, 616, 866]), (201250, 4, [330, 345, 838, 810, 714, 853, 825, 729, 867, 588, 922, 979, 796, 617]), (201265, 3, [331, 839, 811, 715, 782, 589, 923, 797]), (201280, 0, [783]), (201475, 1, [632, 882]), (201490, 3, [346, 854, 826, 730, 883, 604, 618, 633]), (201505, 3, [347, 855, 827, 731, 798, 605, 619, 590]), (201520, 1, [591, 799]), (201730, 0, [634]), (201745, 1, [606, 635]), (201760, 0, [607]), (204820, 0, [992]), (204835, 2, [456, 964, 936, 993]), (204850, 2, [457, 965, 937, 908]), (204865, 0, [909]), (205060, 0, [1008]), (205075, 3, [360, 472, 868, 744, 980, 952, 994, 1009]), (205090, 4, [332, 361, 458, 812, 716, 473, 869, 745, 966, 938, 924, 981, 953, 995]), (205105, 3, [333, 459, 813, 717, 967, 939, 925, 910]), (205120, 0, [911]), (205315, 2, [376, 884, 760, 1010]), (205330, 4, [348, 377, 474, 828, 732, 362, 885, 761, 982, 954, 620, 870, 746, 1011]), (205345, 4, [334, 349, 363, 814, 718, 475, 829, 733, 871, 747, 926, 983, 955, 621]), (205360, 2, [335, 815, 719, 927]), (205570, 2, [378, 886, 762, 636]), (205585, 3, [350, 379, 830, 734, 887, 763, 622, 637]), (205600, 2, [351, 831, 735, 623]), (205825, 0, [638]), (205840, 0, [639]), (208915, 1, [488, 996]), (208930, 2, [460, 489, 940, 997]), (208945, 1, [461, 941]), (209155, 1, [504, 1012]), (209170, 3, [364, 490, 476, 748, 505, 998, 956, 1013]), (209185, 3, [365, 491, 477, 749, 462, 999, 957, 942])]
noncomputable def tab4 : List (Nat × Nat × List Nat) := [(209200, 1, [463, 943]), (209410, 2, [380, 506, 764, 1014]), (209425, 3, [366, 381, 478, 750, 507, 765, 958, 1015]), (209440, 2, [367, 479, 751, 959]), (209665, 1, [382, 766]), (209680, 1, [383, 767]), (213010, 0, [492]), (213025, 0, [493]), (213250, 0, [508]), (213265, 1, [494, 509]), (213280, 0, [495]), (213505, 0, [510]), (213520, 0, [511]), (262435, 0, [840]), (262450, 0, [841]), (262675, 0, [856]), (262690, 1, [842, 857]), (262705, 0, [843]), (262930, 0, [858]), (262945, 0, [859]), (266275, 0, [968]), (266290, 0, [969]), (266515, 1, [872, 984]), (266530, 2, [844, 873, 970, 985]), (266545, 1, [845, 971]), (266755, 0, [888]), (266770, 2, [860, 889, 986, 874]), (266785, 2, [846, 861, 875, 987]), (266800, 0, [847]), (267010, 0, [890]), (267025, 1, [862, 891]), (267040, 0, [863]), (270355, 0, [1000]), (270370, 1, [972, 1001]), (270385, 0, [973]), (270595, 0, [1016]), (270610, 2, [876, 1002, 988, 1017]), (270625, 2, [877, 1003, 989, 974]), (270640, 0, [975]), (270850, 1, [892, 1018]), (270865, 2, [878, 893, 990, 1019]), (270880, 1, [879, 991]), (271105, 0, [894]), (271120, 0, [895]), (274450, 0, [1004]), (274465, 0, [1005]), (274690, 0, [1020]), (274705, 1, [1006, 1021]), (274720, 0, [1007]), (274945, 0, [1022]), (274960, 0, [1023])]
noncomputable def tabN : List (Nat × Nat × List Nat) := tab0 ++ (tab1 ++ (tab2 ++ (tab3 ++ (tab4))))
noncomputable def ringStepN (here : Nat) (fr : List Nat × Nat) (p : Nat × Nat) : List Nat × Nat :=
  if (Nat.beq (here &&& (p.1 + p.2)) p.1 || Nat.beq (here &&& (p.1 + p.2)) p.2) = true then
    (if (fr.1.any (Nat.beq (here ^^^ (p.1 + p.2)))) = true then fr.1 else fr.1 ++ [here ^^^ (p.1 + p.2)], fr.2 + 1)
  else fr
noncomputable def turnStepN (st : List Nat × List Nat) : List Nat × List Nat :=
  let fr := tripN.foldl (ringStepN (st.1.getD st.2.length 0)) (st.1, 0)
  (fr.1, st.2 ++ [fr.2])
noncomputable def loopN : Nat → List Nat × List Nat → Option (List Nat × List Nat)
  | 0, st => if st.2.length < st.1.length then none else some st
  | f + 1, st => if st.2.length < st.1.length then (if (turnStepN st).1.length < 64 then loopN f (turnStepN st) else none) else some st
noncomputable def putGameN (i j pl num left : Nat) (g : List (Nat × Nat)) (b : Nat × Nat) : List (Nat × Nat) :=
  if Nat.ble 1 (left / 16 ^ b.2 % 16) = true then
    (if (Nat.ble (j + 1) 4 || Nat.beq ((left - 16 ^ b.2) / 16 ^ i % 16) 0) = true then g ++ [(num + b.1 * 2 ^ pl, left - 16 ^ b.2)] else g)
  else g
noncomputable def roundOneN (i j pl : Nat) (rs : List (Nat × Nat)) : List (Nat × Nat) := rs.foldl (fun g p => [(0, i), (1, j)].foldl (putGameN i j pl p.1 p.2) g) []
noncomputable def roundsAllN (wins : Nat) : List (Nat × Nat) × Nat := gamesZ.foldl (fun st ij => (roundOneN ij.1 ij.2 st.2 st.1, st.2 + 1)) ([(0, wins)], 0)
noncomputable def roundsN (wins : Nat) : List Nat := ((roundsAllN wins).1.filter fun p => Nat.beq p.2 0).map (·.1)

theorem xor_and1 : ∀ p < 2, ∀ q < 2, (p ^^^ q) + 2 * (p &&& q) = p + q := by decide
theorem half_add {x y a b x0 y0 a0 b0 : Nat} (h : x + 2 * y = a + b) (h0 : x0 + 2 * y0 = a0 + b0) : 2 * x + x0 + 2 * (2 * y + y0) = 2 * a + a0 + (2 * b + b0) := by omega
theorem xor_and (a : Nat) : ∀ b, (a ^^^ b) + 2 * (a &&& b) = a + b := by
  induction a using Nat.strongRecOn with
  | _ a ih =>
    intro b
    by_cases ha : a = 0
    · subst ha; simp
    · have h := ih (a / 2) (Nat.div_lt_self (Nat.pos_of_ne_zero ha) (by decide)) (b / 2)
      rw [← Nat.xor_div_two, ← Nat.and_div_two] at h
      have h0 := xor_and1 (a % 2) (Nat.mod_lt _ (by decide)) (b % 2) (Nat.mod_lt _ (by decide))
      have e1 : (a ^^^ b) % 2 = (a % 2) ^^^ (b % 2) := Nat.xor_mod_two_pow (n := 1)
      have e2 : (a &&& b) % 2 = (a % 2) &&& (b % 2) := Nat.and_mod_two_pow (n := 1)
      have := half_add h h0
      rw [← e1, ← e2] at this
      rwa [Nat.div_add_mod, Nat.div_add_mod, Nat.div_add_mod, Nat.div_add_mod] at this
theorem xor_nat (a b : Nat) : Builtin.bitXor (a : Int) (b : Int) = ((a ^^^ b : Nat) : Int) := by
  rw [xor_int_eq, and_nat]
  have := xor_and a b
  omega
theorem eq_cast (a b : Nat) : ((a : Int) == (b : Int)) = Nat.beq b a := by
  by_cases h : a = b
  · subst h; simp
  · have h1 : ((a : Int) == (b : Int)) = false := by rw [beq_eq_false_iff_ne]; omega
    have h2 : Nat.beq b a = false := by
      cases q : Nat.beq b a with
      | false => rfl
      | true => exact absurd (Nat.eq_of_beq_eq_true q).symm h
    rw [h1, h2]
noncomputable def castL (l : List Nat) : List Int := l.map fun n : Nat => (n : Int)
noncomputable def castF (fr : List Nat × Nat) : List Int × Int := (castL fr.1, (fr.2 : Int))
noncomputable def castP (p : Nat × Nat) : Int × Int := ((p.1 : Int), (p.2 : Int))
noncomputable def castS (st : List Nat × List Nat) : List Int × List Int := (castL st.1, castL st.2)
theorem any_cast (l : List Nat) (y : Nat) : (castL l).any (· == (y : Int)) = l.any (Nat.beq y) := by
  unfold castL
  rw [List.any_map]
  congr 1
  funext n
  exact eq_cast n y
theorem ringStep_cast (h : Nat) (fr : List Nat × Nat) (p : Nat × Nat) : ringStep (h : Int) (castF fr) (castP p) = castF (ringStepN h fr p) := by
  have e1 : ((p.1 : Int) + (p.2 : Int)) = ((p.1 + p.2 : Nat) : Int) := by omega
  have e2 : ([(p.1 : Int), (p.2 : Int)].any (· == ((h &&& (p.1 + p.2) : Nat) : Int))) = (Nat.beq (h &&& (p.1 + p.2)) p.1 || Nat.beq (h &&& (p.1 + p.2)) p.2) := by
    rw [List.any_cons, List.any_cons, List.any_nil, eq_cast, eq_cast, Bool.or_false]
  unfold ringStep ringStepN castF castP
  dsimp only
  rw [e1, and_nat, xor_nat, e2, any_cast]
  cases hc : (Nat.beq (h &&& (p.1 + p.2)) p.1 || Nat.beq (h &&& (p.1 + p.2)) p.2) with
  | false => rw [if_neg (by decide), if_neg (by decide)]
  | true =>
    rw [if_pos rfl, if_pos rfl]
    cases hd : fr.1.any (Nat.beq (h ^^^ (p.1 + p.2))) with
    | true => rw [Bool.not_true, if_neg (by decide), if_pos rfl]; rfl
    | false =>
      rw [Bool.not_false, if_pos rfl, if_neg (by decide)]
      show (castL fr.1 ++ [((h ^^^ (p.1 + p.2) : Nat) : Int)], _) = (castL (fr.1 ++ [h ^^^ (p.1 + p.2)]), _)
      unfold castL
      rw [List.map_append]; rfl
theorem foldl_cast {α β γ δ : Type} {f : β → α → β} {g : δ → γ → δ} {c : δ → β} {k : γ → α} (h : ∀ b a, f (c b) (k a) = c (g b a)) : ∀ (l : List γ) (b : δ), (l.map k).foldl f (c b) = c (l.foldl g b)
  | [], _ => rfl
  | a :: r, b => by
    rw [List.map_cons, List.foldl_cons, List.foldl_cons, h]
    exact foldl_cast h r (g b a)
theorem trip_eq : tripZ = tripN.map castP := by decide +kernel
theorem getD_cast (l : List Nat) (n : Nat) : (castL l).getD n 0 = ((l.getD n 0 : Nat) : Int) := by
  unfold castL
  simp only [List.getD, List.getElem?_map]
  cases l[n]? <;> rfl
theorem turnStep_cast (st : List Nat × List Nat) : turnStep (castS st) = castS (turnStepN st) := by
  unfold turnStep turnStepN
  have e : (castS st).2.length = st.2.length := by simp [castS, castL]
  have h := foldl_cast (f := ringStep ((st.1.getD st.2.length 0 : Nat) : Int)) (g := ringStepN (st.1.getD st.2.length 0)) (c := castF) (k := castP) (fun b a => ringStep_cast _ b a) tripN (st.1, 0)
  have h' : tripZ.foldl (ringStep ((castS st).1.getD (castS st).2.length 0)) ((castS st).1, 0) = castF (tripN.foldl (ringStepN (st.1.getD st.2.length 0)) (st.1, 0)) := by
    rw [← h, trip_eq, e]
    show List.foldl (ringStep ((castL st.1).getD st.2.length 0)) _ _ = _
    rw [getD_cast]; rfl
  show ((tripZ.foldl (ringStep ((castS st).1.getD (castS st).2.length 0)) ((castS st).1, 0)).1, (castS st).2 ++ [(tripZ.foldl (ringStep ((castS st).1.getD (castS st).2.length 0)) ((castS st).1, 0)).2]) = _
  rw [h']
  show (castL _, castL st.2 ++ [_]) = (castL _, castL (st.2 ++ [_]))
  unfold castL
  rw [List.map_append]; rfl
theorem loop_cast : ∀ (f : Nat) (st : List Nat × List Nat), loopP f (castS st) = (loopN f st).map castS
  | 0, st => by
    have e1 : (castS st).1.length = st.1.length := by simp [castS, castL]
    have e2 : (castS st).2.length = st.2.length := by simp [castS, castL]
    unfold loopP loopN
    rw [e1, e2]
    split <;> rfl
  | f + 1, st => by
    have e1 : (castS st).1.length = st.1.length := by simp [castS, castL]
    have e2 : (castS st).2.length = st.2.length := by simp [castS, castL]
    have e3 : (castS (turnStepN st)).1.length = (turnStepN st).1.length := by simp [castS, castL]
    unfold loopP loopN
    rw [e1, e2, turnStep_cast, e3]
    split
    · split
      · exact loop_cast f (turnStepN st)
      · rfl
    · rfl

theorem putGame_cast (i j pl num left : Nat) (g : List (Nat × Nat)) (b : Nat × Nat) : putGame i j pl (num : Int) (left : Int) (g.map castP) ((b.1 : Int), b.2) = (putGameN i j pl num left g b).map castP := by
  have p16 : ∀ w : Nat, (16 : Int) ^ w = ((16 ^ w : Nat) : Int) := fun w => by rw [Int.natCast_pow]; rfl
  have p2 : ∀ w : Nat, (2 : Int) ^ w = ((2 ^ w : Nat) : Int) := fun w => by rw [Int.natCast_pow]; rfl
  have fd : ∀ a w : Nat, ((a : Int).fdiv ((16 ^ w : Nat) : Int)).fmod 16 = ((a / 16 ^ w % 16 : Nat) : Int) := fun a w => by
    rw [Int.fdiv_eq_ediv_of_nonneg _ (Int.natCast_nonneg _), Int.fmod_eq_emod_of_nonneg _ (by omega), ← Int.natCast_ediv]
    generalize a / 16 ^ w = q
    omega
  unfold putGame putGameN
  dsimp only
  rw [p16, p16, p2, fd]
  by_cases h1 : 1 ≤ left / 16 ^ b.2 % 16
  · have hle : 16 ^ b.2 ≤ left := by
      rcases Nat.lt_or_ge left (16 ^ b.2) with h | h
      · rw [Nat.div_eq_of_lt h] at h1; simp at h1
      · exact h
    rw [if_pos (decide_eq_true (by omega)), if_pos (Nat.ble_eq_true_of_le h1)]
    have es : (left : Int) - ((16 ^ b.2 : Nat) : Int) = ((left - 16 ^ b.2 : Nat) : Int) := by omega
    rw [es, fd]
    have e1 : (decide ((j : Int) < 4) || ((((left - 16 ^ b.2) / 16 ^ i % 16 : Nat) : Int) == 0)) = (Nat.ble (j + 1) 4 || Nat.beq ((left - 16 ^ b.2) / 16 ^ i % 16) 0) := by
      congr 1
      · by_cases hj : j < 4
        · rw [decide_eq_true (by omega), Nat.ble_eq_true_of_le hj]
        · rw [decide_eq_false (by omega)]
          cases q : Nat.ble (j + 1) 4 with
          | false => rfl
          | true => exact absurd (Nat.le_of_ble_eq_true q) (by omega)
      · generalize (left - 16 ^ b.2) / 16 ^ i % 16 = X
        exact (eq_cast X 0).trans (by cases X <;> rfl)
    rw [e1]
    split
    · rw [List.map_append]
      congr 1
    · rfl
  · rw [if_neg (by rw [decide_eq_true_eq]; omega), if_neg (fun q => h1 (Nat.le_of_ble_eq_true q))]
theorem roundOne_cast (i j pl : Nat) (rs : List (Nat × Nat)) : roundOne i j pl (rs.map castP) = (roundOneN i j pl rs).map castP := by
  unfold roundOne roundOneN
  refine foldl_cast (c := fun g : List (Nat × Nat) => g.map castP) (k := castP) (fun g p => ?_) rs []
  exact foldl_cast (c := fun g : List (Nat × Nat) => g.map castP) (k := fun b : Nat × Nat => ((b.1 : Int), b.2)) (f := putGame i j pl (p.1 : Int) (p.2 : Int)) (g := putGameN i j pl p.1 p.2) (fun g b => putGame_cast i j pl p.1 p.2 g b) [(0, i), (1, j)] g
theorem roundsAll_cast (w : Nat) : roundsAll (w : Int) = ((roundsAllN w).1.map castP, (roundsAllN w).2) := by
  unfold roundsAll roundsAllN
  have := foldl_cast (f := fun (st : List (Int × Int) × Nat) (ij : Nat × Nat) => (roundOne ij.1 ij.2 st.2 st.1, st.2 + 1)) (g := fun (st : List (Nat × Nat) × Nat) (ij : Nat × Nat) => (roundOneN ij.1 ij.2 st.2 st.1, st.2 + 1))
    (c := fun st : List (Nat × Nat) × Nat => (st.1.map castP, st.2)) (k := fun p : Nat × Nat => p) (fun st ij => by
      show (roundOne ij.1 ij.2 st.2 (st.1.map castP), st.2 + 1) = _
      rw [roundOne_cast]) gamesZ ([(0, w)], 0)
  rw [List.map_id'] at this
  exact this
theorem rounds_cast (w : Nat) : roundsP (w : Int) = castL (roundsN w) := by
  unfold roundsP roundsN castL
  rw [roundsAll_cast]
  show (((roundsAllN w).1.map castP).filter fun p => p.2 == 0).map (·.1) = _
  rw [List.filter_map, List.map_map, List.map_map]
  congr 1
  refine List.filter_congr fun p _ => ?_
  show ((p.2 : Int) == 0) = Nat.beq p.2 0
  have := eq_cast p.2 0
  cases p.2 <;> rfl

-- P9
set_option maxRecDepth 100000
noncomputable def bn (N g : Nat) : Nat := N / 2 ^ g % 2
noncomputable def wN (N : Nat) : Nat → Nat
  | 0 => 4 - (bn N 0 + bn N 1 + bn N 2 + bn N 3)
  | 1 => 3 + bn N 0 - (bn N 4 + bn N 5 + bn N 6)
  | 2 => 2 + bn N 1 + bn N 4 - (bn N 7 + bn N 8)
  | 3 => 1 + bn N 2 + bn N 5 + bn N 7 - bn N 9
  | _ => bn N 3 + bn N 6 + bn N 8 + bn N 9
theorem bit_two (N g : Nat) : (bitN N g = true ∧ bn N g = 1) ∨ (bitN N g = false ∧ bn N g = 0) := by
  unfold bitN bn
  rcases Nat.mod_two_eq_zero_or_one (N / 2 ^ g) with h | h
  · rw [h]; exact .inr ⟨rfl, rfl⟩
  · rw [h]; exact .inl ⟨rfl, rfl⟩
theorem ind0 (N : Nat) : ∀ k < 5, (if isBare (bareN N 0) k = true then 1 else 0) = ([0, 1 - bn N 6, 1 - bn N 7, bn N 7, bn N 6] : List Nat).getD k 0 := by
  have e : bareN N 0 = [if bitN N 6 = true then 4 else 1, if bitN N 7 = true then 3 else 2] := rfl
  rw [e]
  rcases bit_two N 6 with ⟨a, b⟩ | ⟨a, b⟩ <;> rcases bit_two N 7 with ⟨c, d⟩ | ⟨c, d⟩ <;> rw [a, b, c, d] <;> decide
theorem ind1 (N : Nat) : ∀ k < 5, (if isBare (bareN N 1) k = true then 1 else 0) = ([1 - bn N 1, 0, bn N 1, 1 - bn N 9, bn N 9] : List Nat).getD k 0 := by
  have e : bareN N 1 = [if bitN N 1 = true then 2 else 0, if bitN N 9 = true then 4 else 3] := rfl
  rw [e]
  rcases bit_two N 1 with ⟨a, b⟩ | ⟨a, b⟩ <;> rcases bit_two N 9 with ⟨c, d⟩ | ⟨c, d⟩ <;> rw [a, b, c, d] <;> decide
theorem ind2 (N : Nat) : ∀ k < 5, (if isBare (bareN N 2) k = true then 1 else 0) = ([1 - bn N 3, 1 - bn N 5, 0, bn N 5, bn N 3] : List Nat).getD k 0 := by
  have e : bareN N 2 = [if bitN N 5 = true then 3 else 1, if bitN N 3 = true then 4 else 0] := rfl
  rw [e]
  rcases bit_two N 5 with ⟨a, b⟩ | ⟨a, b⟩ <;> rcases bit_two N 3 with ⟨c, d⟩ | ⟨c, d⟩ <;> rw [a, b, c, d] <;> decide
theorem ind3 (N : Nat) : ∀ k < 5, (if isBare (bareN N 3) k = true then 1 else 0) = ([1 - bn N 0, bn N 0, 1 - bn N 8, 0, bn N 8] : List Nat).getD k 0 := by
  have e : bareN N 3 = [if bitN N 8 = true then 4 else 2, if bitN N 0 = true then 1 else 0] := rfl
  rw [e]
  rcases bit_two N 8 with ⟨a, b⟩ | ⟨a, b⟩ <;> rcases bit_two N 0 with ⟨c, d⟩ | ⟨c, d⟩ <;> rw [a, b, c, d] <;> decide
theorem ind4 (N : Nat) : ∀ k < 5, (if isBare (bareN N 4) k = true then 1 else 0) = ([1 - bn N 2, 1 - bn N 4, bn N 4, bn N 2, 0] : List Nat).getD k 0 := by
  have e : bareN N 4 = [if bitN N 2 = true then 3 else 0, if bitN N 4 = true then 2 else 1] := rfl
  rw [e]
  rcases bit_two N 2 with ⟨a, b⟩ | ⟨a, b⟩ <;> rcases bit_two N 4 with ⟨c, d⟩ | ⟨c, d⟩ <;> rw [a, b, c, d] <;> decide
theorem bn_lt (N g : Nat) : bn N g < 2 := Nat.mod_lt _ (by decide)
theorem w0 : ∀ a < 2, ∀ b < 2, ∀ c < 2, ∀ d < 2, 0 + 0 + (1 - b) + (1 - d) + (1 - a) + (1 - c) = 4 - (a + b + c + d) := by decide
theorem w1 : ∀ a < 2, ∀ b < 2, ∀ c < 2, ∀ d < 2, 0 + (1 - c) + 0 + (1 - b) + d + (1 - a) = 3 + d - (a + b + c) := by decide
theorem w2 : ∀ a < 2, ∀ b < 2, ∀ c < 2, ∀ d < 2, 0 + (1 - c) + a + 0 + (1 - d) + b = 2 + a + b - (c + d) := by decide
theorem w3 : ∀ a < 2, ∀ b < 2, ∀ c < 2, ∀ d < 2, 0 + c + (1 - d) + b + 0 + a = 1 + a + b + c - d := by decide
theorem w4 : ∀ a < 2, ∀ b < 2, ∀ c < 2, ∀ d < 2, 0 + b + d + a + c + 0 = a + b + c + d := by decide
theorem all5 {P : Nat → Prop} (h0 : P 0) (h1 : P 1) (h2 : P 2) (h3 : P 3) (h4 : P 4) : ∀ k < 5, P k
  | 0, _ => h0
  | 1, _ => h1
  | 2, _ => h2
  | 3, _ => h3
  | 4, _ => h4
theorem wf_eq (N : Nat) : ∀ k < 5, wf N 5 k = wN N k := fun k hk => by
  have e : wf N 5 k = 0 + (if isBare (bareN N 0) k = true then 1 else 0) + (if isBare (bareN N 1) k = true then 1 else 0) + (if isBare (bareN N 2) k = true then 1 else 0) + (if isBare (bareN N 3) k = true then 1 else 0) + (if isBare (bareN N 4) k = true then 1 else 0) := rfl
  rw [e, ind0 N k hk, ind1 N k hk, ind2 N k hk, ind3 N k hk, ind4 N k hk]
  have b := bn_lt N
  clear e
  revert k
  refine fun k hk => all5 (P := fun k => 0 + ([0, 1 - bn N 6, 1 - bn N 7, bn N 7, bn N 6] : List Nat).getD k 0 + ([1 - bn N 1, 0, bn N 1, 1 - bn N 9, bn N 9] : List Nat).getD k 0 + ([1 - bn N 3, 1 - bn N 5, 0, bn N 5, bn N 3] : List Nat).getD k 0 + ([1 - bn N 0, bn N 0, 1 - bn N 8, 0, bn N 8] : List Nat).getD k 0 + ([1 - bn N 2, 1 - bn N 4, bn N 4, bn N 2, 0] : List Nat).getD k 0 = wN N k) (w0 _ (b 0) _ (b 1) _ (b 2) _ (b 3)) (w1 _ (b 4) _ (b 5) _ (b 6) _ (b 0)) (w2 _ (b 1) _ (b 4) _ (b 7) _ (b 8)) (w3 _ (b 2) _ (b 5) _ (b 7) _ (b 9)) (w4 _ (b 3) _ (b 6) _ (b 8) _ (b 9)) k hk
theorem dN_eq (N : Nat) {k : Nat} (hk : k < 5) : dN N k = 2 + wN N k := by unfold dN; rw [wf_eq N k hk]

noncomputable def codeN (N : Nat) : Nat := wN N 0 + wN N 1 * 16 + wN N 2 * 256 + wN N 3 * 4096 + wN N 4 * 65536
theorem wins_eq (N : Nat) : winsZ (dN N) = ((codeN N : Nat) : Int) := by
  show (0 : Int) + ((dN N 0 : Int) - 2) * 16 ^ 0 + ((dN N 1 : Int) - 2) * 16 ^ 1 + ((dN N 2 : Int) - 2) * 16 ^ 2 + ((dN N 3 : Int) - 2) * 16 ^ 3 + ((dN N 4 : Int) - 2) * 16 ^ 4 = _
  rw [dN_eq N (by omega : 0 < 5), dN_eq N (by omega : 1 < 5), dN_eq N (by omega : 2 < 5), dN_eq N (by omega : 3 < 5), dN_eq N (by omega : 4 < 5)]
  unfold codeN
  omega
noncomputable def adiff (a b : Nat) : Nat := (a - b) + (b - a)
noncomputable def sqP (N : Nat) (p : Nat × Nat) : Nat := (2 * adiff (wN N p.1) (wN N p.2)) ^ 2
noncomputable def gamesN : List (Nat × Nat) := [(0, 1), (0, 2), (0, 3), (0, 4), (1, 2), (1, 3), (1, 4), (2, 3), (2, 4), (3, 4)]
noncomputable def sqN (N : Nat) : Nat := (gamesN.map (sqP N)).foldl (· + ·) 0
theorem games_eq : gamesZ = gamesN := by decide +kernel
theorem adiff_eq (a b : Nat) : ((((2 + b : Nat) : Int) - ((2 + a : Nat) : Int)).natAbs) = adiff a b := by
  rw [show ((2 + b : Nat) : Int) - ((2 + a : Nat) : Int) = (b : Int) - (a : Int) by rw [Int.natCast_add, Int.natCast_add, Int.add_sub_add_left]]
  unfold adiff
  rcases Nat.le_total a b with h | h
  · rw [Nat.sub_eq_zero_of_le h, Nat.zero_add, ← Int.natCast_sub h]; rfl
  · rw [Nat.sub_eq_zero_of_le h, Nat.add_zero, ← Int.natAbs_neg, Int.neg_sub, ← Int.natCast_sub h]; rfl
theorem sqOf_eq (N : Nat) : ∀ p ∈ gamesN, sqOf (dN N) p = ((sqP N p : Nat) : Int) := fun p hp => by
  have hg : ∀ p ∈ gamesN, p.1 < 5 ∧ p.2 < 5 := by decide
  obtain ⟨h1, h2⟩ := hg p hp
  unfold sqOf sqP
  rw [dN_eq N h1, dN_eq N h2]
  rw [show ((((2 + wN N p.2 : Nat) : Int) - ((2 + wN N p.1 : Nat) : Int)).natAbs) = adiff (wN N p.1) (wN N p.2) from adiff_eq _ _, Int.natCast_pow, Int.natCast_mul]; rfl
theorem sq_eq (N : Nat) : sqZ (dN N) = ((sqN N : Nat) : Int) := by
  unfold sqZ sqN
  rw [games_eq]
  have e : gamesN.map (sqOf (dN N)) = (gamesN.map (sqP N)).map fun n : Nat => (n : Int) := by
    rw [List.map_map]
    exact List.map_congr_left fun p hp => sqOf_eq N p hp
  rw [e]
  exact foldl_cast (f := fun a b : Int => a + b) (g := fun a b : Nat => a + b) (c := fun n : Nat => (n : Int)) (k := fun n : Nat => (n : Int)) (fun b a => (Int.natCast_add b a).symm) _ 0


/-! ### the rings that are turned reach the whole kind -/
noncomputable def hitN (x : Nat) (p : Nat × Nat) : Bool := Nat.beq (x &&& (p.1 + p.2)) p.1 || Nat.beq (x &&& (p.1 + p.2)) p.2
noncomputable def ringsOf (tr : List (Nat × Nat)) (x : Nat) : List Nat := (tr.filter (hitN x)).map fun p => x ^^^ (p.1 + p.2)
noncomputable def ringsN (x : Nat) : List Nat := ringsOf tripN x
theorem fold_spec (x : Nat) : ∀ (tr : List (Nat × Nat)) (f : List Nat) (c : Nat), (∃ e, (tr.foldl (ringStepN x) (f, c)).1 = f ++ e) ∧ (tr.foldl (ringStepN x) (f, c)).2 = c + (ringsOf tr x).length ∧
    (∀ y, y ∈ (tr.foldl (ringStepN x) (f, c)).1 ↔ y ∈ f ∨ y ∈ ringsOf tr x) ∧ (f.Nodup → (tr.foldl (ringStepN x) (f, c)).1.Nodup)
  | [], f, c => ⟨⟨[], by simp⟩, rfl, fun y => by simp [ringsOf], fun h => h⟩
  | p :: r, f, c => by
    rw [List.foldl_cons]
    have hs : ringStepN x (f, c) p = if hitN x p = true then (if (f.any (Nat.beq (x ^^^ (p.1 + p.2)))) = true then f else f ++ [x ^^^ (p.1 + p.2)], c + 1) else (f, c) := rfl
    cases hh : hitN x p with
    | false =>
      have er : ringsOf (p :: r) x = ringsOf r x := by unfold ringsOf; rw [List.filter_cons, hh]; rfl
      rw [hs, hh, if_neg (by decide), er]
      exact fold_spec x r f c
    | true =>
      have er : ringsOf (p :: r) x = (x ^^^ (p.1 + p.2)) :: ringsOf r x := by unfold ringsOf; rw [List.filter_cons, hh]; rfl
      rw [hs, hh, if_pos rfl, er]
      cases hy : f.any (Nat.beq (x ^^^ (p.1 + p.2))) with
      | true =>
        have hin : x ^^^ (p.1 + p.2) ∈ f := by
          obtain ⟨z, hz, e⟩ := List.any_eq_true.mp hy
          rw [Nat.eq_of_beq_eq_true e]; exact hz
        rw [if_pos rfl]
        obtain ⟨h1, h2, h3, h4⟩ := fold_spec x r f (c + 1)
        refine ⟨h1, by rw [h2, List.length_cons]; omega, fun y => ?_, h4⟩
        rw [h3 y, List.mem_cons]
        constructor
        · rintro (h | h)
          · exact .inl h
          · exact .inr (.inr h)
        · rintro (h | h | h)
          · exact .inl h
          · exact .inl (h ▸ hin)
          · exact .inr h
      | false =>
        have hnin : x ^^^ (p.1 + p.2) ∉ f := fun q => by
          have := List.any_eq_false.mp hy _ q
          exact this (Nat.beq_refl _)
        rw [if_neg (by decide)]
        obtain ⟨⟨e, h1⟩, h2, h3, h4⟩ := fold_spec x r (f ++ [x ^^^ (p.1 + p.2)]) (c + 1)
        refine ⟨⟨(x ^^^ (p.1 + p.2)) :: e, by rw [h1]; simp⟩, by rw [h2, List.length_cons]; omega, fun y => ?_, fun hn => h4 ?_⟩
        · simp only [h3, List.mem_append, List.mem_cons, List.not_mem_nil, or_false]
          exact or_assoc
        · rw [List.nodup_append]
          refine ⟨hn, by simp, fun a ha b hb q => ?_⟩
          have : b = x ^^^ (p.1 + p.2) := by simpa using hb
          exact hnin (this ▸ q ▸ ha)
theorem nodup_len : ∀ (l C : List Nat), l.Nodup → (∀ x ∈ l, x ∈ C) → l.length ≤ C.length
  | [], _, _, _ => Nat.zero_le _
  | a :: r, C, hn, hs => by
    obtain ⟨h1, h2⟩ := List.nodup_cons.mp hn
    have := nodup_len r (C.erase a) h2 fun x hx => (List.mem_erase_of_ne (fun q : x = a => h1 (by rw [← q]; exact hx))).mpr (hs x (.tail _ hx))
    have h3 := List.length_erase_of_mem (hs a (.head _))
    have h4 : 0 < C.length := List.length_pos_of_mem (hs a (.head _))
    rw [List.length_cons]; omega
structure BInv (C : List Nat) (q : Nat) (st : List Nat × List Nat) : Prop where
  nd : st.1.Nodup
  inC : ∀ y ∈ st.1, y ∈ C
  le : st.2.length ≤ st.1.length
  done : ∀ i x, i < st.2.length → st.1[i]? = some x → ∀ y ∈ ringsN x, y ∈ st.1
  cnt : ∀ c ∈ st.2, c = q
theorem binv_step {C : List Nat} {q : Nat} (hC : ∀ x ∈ C, (∀ y ∈ ringsN x, y ∈ C) ∧ (ringsN x).length = q) {st : List Nat × List Nat} (I : BInv C q st) (hlt : st.2.length < st.1.length) :
    BInv C q (turnStepN st) ∧ (turnStepN st).2.length = st.2.length + 1 ∧ ∀ y ∈ st.1, y ∈ (turnStepN st).1 := by
  have hx : st.1[st.2.length]? = some (st.1.getD st.2.length 0) := by simp [List.getD, hlt]
  have hxC : st.1.getD st.2.length 0 ∈ C := I.inC _ (List.mem_of_getElem? hx)
  obtain ⟨⟨e, h1⟩, h2, h3, h4⟩ := fold_spec (st.1.getD st.2.length 0) tripN st.1 0
  have hsub : ∀ y ∈ st.1, y ∈ (turnStepN st).1 := fun y hy => (h3 y).mpr (.inl hy)
  have hlen : (turnStepN st).2.length = st.2.length + 1 := by
    show (st.2 ++ [_]).length = _
    simp
  have hpre : (turnStepN st).1 = st.1 ++ e := h1
  refine ⟨⟨h4 I.nd, fun y hy => ?_, ?_, fun i x hi hix y hy => ?_, fun c hc => ?_⟩, hlen, hsub⟩
  · rcases (h3 y).mp hy with h | h
    · exact I.inC y h
    · exact (hC _ hxC).1 y h
  · rw [hlen, hpre, List.length_append]; omega
  · rw [hlen] at hi
    rw [hpre, List.getElem?_append_left (by omega)] at hix
    rcases Nat.lt_or_ge i st.2.length with h | h
    · exact hsub y (I.done i x h hix y hy)
    · have : i = st.2.length := by omega
      subst this
      rw [hx] at hix
      cases hix
      exact (h3 y).mpr (.inr hy)
  · have hc' : c ∈ st.2 ++ [(tripN.foldl (ringStepN (st.1.getD st.2.length 0)) (st.1, 0)).2] := hc
    rcases List.mem_append.mp hc' with h | h
    · exact I.cnt c h
    · have : c = (tripN.foldl (ringStepN (st.1.getD st.2.length 0)) (st.1, 0)).2 := by simpa using h
      rw [this, h2, Nat.zero_add]
      exact (hC _ hxC).2
theorem bfs_ok {C : List Nat} {q : Nat} (hC : ∀ x ∈ C, (∀ y ∈ ringsN x, y ∈ C) ∧ (ringsN x).length = q) (h64 : C.length < 64) : ∀ (f : Nat) (st : List Nat × List Nat), BInv C q st → C.length ≤ f + st.2.length →
    ∃ L, loopN f st = some L ∧ BInv C q L ∧ L.2.length = L.1.length ∧ ∀ y ∈ st.1, y ∈ L.1
  | 0, st, I, hf => by
    have h1 := nodup_len st.1 C I.nd I.inC
    have h2 := I.le
    unfold loopN
    rw [if_neg (by omega)]
    exact ⟨st, rfl, I, by omega, fun y hy => hy⟩
  | f + 1, st, I, hf => by
    unfold loopN
    by_cases hlt : st.2.length < st.1.length
    · obtain ⟨I', hl, hsub⟩ := binv_step hC I hlt
      have h1 := nodup_len _ C I'.nd I'.inC
      rw [if_pos hlt, if_pos (by omega)]
      obtain ⟨L, a, b, c, d⟩ := bfs_ok hC h64 f (turnStepN st) I' (by omega)
      exact ⟨L, a, b, c, fun y hy => d y (hsub y hy)⟩
    · rw [if_neg hlt]
      have h2 := I.le
      exact ⟨st, rfl, I, by omega, fun y hy => hy⟩
noncomputable def connN : List Nat → List Nat → Bool
  | _, [] => true
  | seen, y :: r => (ringsN y).any (fun x => seen.any (Nat.beq x) && (ringsN x).any (Nat.beq y)) && connN (seen ++ [y]) r
theorem conn_all {S : List Nat} (hS : ∀ x ∈ S, ∀ y ∈ ringsN x, y ∈ S) : ∀ (r seen : List Nat), connN seen r = true → (∀ x ∈ seen, ∀ y ∈ seen, x ∈ S → y ∈ S) → ∀ x ∈ seen ++ r, ∀ y ∈ seen ++ r, x ∈ S → y ∈ S
  | [], seen, _, h => by simpa using h
  | z :: r, seen, hc, h => by
    unfold connN at hc
    rw [Bool.and_eq_true] at hc
    obtain ⟨x, hx, hx2⟩ := List.any_eq_true.mp hc.1
    rw [Bool.and_eq_true] at hx2
    obtain ⟨x', hx', e1⟩ := List.any_eq_true.mp hx2.1
    obtain ⟨z', hz', e2⟩ := List.any_eq_true.mp hx2.2
    have e1 := Nat.eq_of_beq_eq_true e1
    have e2 := Nat.eq_of_beq_eq_true e2
    subst e1; subst e2
    have step : ∀ a ∈ seen ++ [z], ∀ b ∈ seen ++ [z], a ∈ S → b ∈ S := fun a ha b hb hA => by
      have hxS : x ∈ S := by
        rcases List.mem_append.mp ha with q | q
        · exact h a q x hx' hA
        · have : a = z := by simpa using q
          subst this
          exact hS a hA x hx
      rcases List.mem_append.mp hb with q | q
      · exact h x hx' b q hxS
      · have : b = z := by simpa using q
        subst this
        exact hS x hxS b hz'
    have := conn_all hS r (seen ++ [z]) hc.2 step
    simpa using this
noncomputable def kindOk (e : Nat × Nat × List Nat) : Bool :=
  (e.2.2.all fun x => Nat.beq (codeN x) e.1 && ((ringsN x).all fun y => e.2.2.any (Nat.beq y)) && Nat.beq (ringsN x).length e.2.1 && Nat.beq (40 * e.2.1 + sqN x) 200) && connN (e.2.2.take 1) (e.2.2.drop 1) && decide e.2.2.Nodup
noncomputable def roundsOk (e : Nat × Nat × List Nat) : Bool := (roundsN e.1).isPerm e.2.2 && Nat.ble (e.2.2.length + 1) 40
theorem tab0_ok : tab0.all roundsOk = true := by decide +kernel
theorem tab1_ok : tab1.all roundsOk = true := by decide +kernel
theorem tab2_ok : tab2.all roundsOk = true := by decide +kernel
theorem tab3_ok : tab3.all roundsOk = true := by decide +kernel
theorem tab4_ok : tab4.all roundsOk = true := by decide +kernel
theorem kind0_ok : tab0.all kindOk = true := by decide +kernel
theorem kind1_ok : tab1.all kindOk = true := by decide +kernel
theorem kind2_ok : tab2.all kindOk = true := by decide +kernel
theorem kind3_ok : tab3.all kindOk = true := by decide +kernel
theorem kind4_ok : tab4.all kindOk = true := by decide +kernel
theorem tab_all : ∀ e ∈ tabN, roundsOk e = true ∧ kindOk e = true := fun e he => by
  unfold tabN at he
  rcases List.mem_append.mp he with h | h
  · exact ⟨List.all_eq_true.mp tab0_ok e h, List.all_eq_true.mp kind0_ok e h⟩
  rcases List.mem_append.mp h with h | h
  · exact ⟨List.all_eq_true.mp tab1_ok e h, List.all_eq_true.mp kind1_ok e h⟩
  rcases List.mem_append.mp h with h | h
  · exact ⟨List.all_eq_true.mp tab2_ok e h, List.all_eq_true.mp kind2_ok e h⟩
  rcases List.mem_append.mp h with h | h
  · exact ⟨List.all_eq_true.mp tab3_ok e h, List.all_eq_true.mp kind3_ok e h⟩
  · exact ⟨List.all_eq_true.mp tab4_ok e h, List.all_eq_true.mp kind4_ok e h⟩
noncomputable def maskN (l : List Nat) : Nat := l.foldl (fun m x => m ||| 2 ^ x) 0
theorem mask_bit : ∀ (l : List Nat) (m N : Nat), (l.foldl (fun m x => m ||| 2 ^ x) m).testBit N = true → m.testBit N = true ∨ N ∈ l
  | [], m, N, h => .inl h
  | x :: r, m, N, h => by
    rw [List.foldl_cons] at h
    rcases mask_bit r _ N h with q | q
    · rw [Nat.testBit_or, Bool.or_eq_true, Nat.testBit_two_pow, decide_eq_true_eq] at q
      rcases q with q | q
      · exact .inl q
      · exact .inr (q ▸ .head _)
    · exact .inr (.tail _ q)
theorem mask_all : maskN (tabN.flatMap fun e => e.2.2) = 2 ^ 1024 - 1 := by decide +kernel
theorem covered {N : Nat} (hN : N < 1024) : ∃ e ∈ tabN, N ∈ e.2.2 := by
  have h : (maskN (tabN.flatMap fun e => e.2.2)).testBit N = true := by
    rw [mask_all, Nat.testBit_two_pow_sub_one]; exact decide_eq_true hN
  rcases mask_bit _ 0 N h with q | q
  · rw [Nat.zero_testBit] at q; cases q
  · exact List.mem_flatMap.mp q
theorem rings_ok {N : Nat} (hN : N < 1024) : ∃ L : List Nat × List Nat, loopN 40 ([N], []) = some L ∧ L.1.length < 64 ∧ (∀ c ∈ L.2, 40 * c + sqN N = 200) ∧ L.2.length = L.1.length ∧ L.1.Perm (roundsN (codeN N)) ∧ (roundsN (codeN N)).length < 64 := by
  obtain ⟨⟨c, q, C⟩, he, hNC⟩ := covered hN
  obtain ⟨h1, h2⟩ := tab_all _ he
  unfold roundsOk at h1
  unfold kindOk at h2
  dsimp only at h1 h2 hNC
  rw [Bool.and_eq_true] at h1
  obtain ⟨h1a, h1b⟩ := h1
  have p1 := List.isPerm_iff.mp h1a
  have hlen : C.length < 40 := Nat.le_of_ble_eq_true h1b
  rw [Bool.and_eq_true, Bool.and_eq_true] at h2
  obtain ⟨⟨h2a, h2b⟩, h2c⟩ := h2
  have hnd : C.Nodup := of_decide_eq_true h2c
  have hall : ∀ x ∈ C, codeN x = c ∧ (∀ y ∈ ringsN x, y ∈ C) ∧ (ringsN x).length = q ∧ 40 * q + sqN x = 200 := fun x hx => by
    have := List.all_eq_true.mp h2a x hx
    rw [Bool.and_eq_true, Bool.and_eq_true, Bool.and_eq_true] at this
    obtain ⟨⟨⟨a1, a2⟩, a3⟩, a4⟩ := this
    refine ⟨Nat.eq_of_beq_eq_true a1, fun y hy => ?_, Nat.eq_of_beq_eq_true a3, Nat.eq_of_beq_eq_true a4⟩
    obtain ⟨z, hz, e⟩ := List.any_eq_true.mp (List.all_eq_true.mp a2 y hy)
    rw [Nat.eq_of_beq_eq_true e]; exact hz
  have hC : ∀ x ∈ C, (∀ y ∈ ringsN x, y ∈ C) ∧ (ringsN x).length = q := fun x hx => ⟨(hall x hx).2.1, (hall x hx).2.2.1⟩
  have I0 : BInv C q ([N], []) := ⟨by simp, fun y hy => by simp at hy; rw [hy]; exact hNC, by simp, fun i x hi => by simp at hi, fun c hc => by simp at hc⟩
  obtain ⟨L, l1, I, l2, l3⟩ := bfs_ok hC (by omega) 40 ([N], []) I0 (by simp; omega)
  have hNL : N ∈ L.1 := l3 N (by simp)
  have hcl : ∀ x ∈ L.1, ∀ y ∈ ringsN x, y ∈ L.1 := fun x hx y hy => by
    obtain ⟨i, hi⟩ := List.getElem?_of_mem hx
    exact I.done i x (by rw [l2]; exact (List.getElem?_eq_some_iff.mp hi).1) hi y hy
  have hconn := conn_all hcl (C.drop 1) (C.take 1) h2b (fun x hx y hy h => by
    cases C with
    | nil => simp at hx
    | cons a r =>
      have h1 : x = a := by simpa using hx
      have h2 : y = a := by simpa using hy
      rw [h2, ← h1]; exact h)
  rw [List.take_append_drop] at hconn
  have perm : L.1.Perm C := (List.perm_ext_iff_of_nodup I.nd hnd).mpr fun y => ⟨I.inC y, fun hy => hconn N hNC y hy hNL⟩
  have hcode : codeN N = c := (hall N hNC).1
  refine ⟨L, l1, by rw [perm.length_eq]; omega, fun x hx => ?_, l2, by rw [hcode]; exact perm.trans p1.symm, by rw [hcode, p1.length_eq]; omega⟩
  rw [I.cnt x hx]
  exact (hall N hNC).2.2.2

theorem all_facts : AllFacts := fun N hN sh hs hi hh => by
  obtain ⟨L, l1, l2, l3, l4, l5, l6⟩ := rings_ok hN
  have hne := pretty_ne (hi := hi) hN hs hh
  have small := join_small (pretty_len hN hs hh) (pretty_all hN hs hh (P := fun x => x.length ≤ 40) word_len (top_len hi hh) (by decide +kernel))
  refine ⟨rN N, dN N, castS L, ?_⟩
  exact {
    w34 := by
      have := low_lt hN hs
      have : hi * 2 ^ 32 ≤ 3 * 2 ^ 32 := Nat.mul_le_mul (by omega) (Nat.le_refl _)
      omega
    sh23 := hs
    j1 := small.1
    j2 := (join_small wordsA_len (wordsA_all hs hh (P := fun x => x.length ≤ 40) word_len (top_len hi hh))).1
    told := by
      rw [pretty_whole hN hs hh]
      split
      · decide +kernel
      · rfl
    tlen := small.2
    split := split_join hne (pretty_all hN hs hh (P := fun x => 44 ∉ x.cps.toList) word_free (top_free hi hh) (by decide +kernel))
    r0 := first_rows
    r1 := fun f hf => by rw [bare_eq hN hs hh hf]; exact round_ok hf
    r2 := last_ok
    r6 := rfl
    dlt := dN_lt N
    lev := lev_fact
    loop := by
      have := loop_cast 40 ([N], [])
      rw [l1] at this
      exact this
    len := by
      show (castL L.1).length < 64
      unfold castL; rw [List.length_map]; exact l2
    cnt := by
      show (castL L.2).map (fun c => 40 * c) = List.replicate (castL L.1).length (200 - sqZ (dN N))
      rw [sq_eq, List.eq_replicate_iff]
      unfold castL
      refine ⟨by rw [List.length_map, List.length_map, List.length_map, l4], fun x hx => ?_⟩
      obtain ⟨y, hy, rfl⟩ := List.mem_map.mp hx
      obtain ⟨c, hc, rfl⟩ := List.mem_map.mp hy
      have := l3 c hc
      omega
    rlen := by
      rw [wins_eq, rounds_cast]
      unfold castL; rw [List.length_map]; exact l6
    perm := by
      rw [wins_eq, rounds_cast]
      exact l5.map _ }

end Mine
theorem PySem.Challenge.cw_ta0012_01_holds : PySem.Challenge.rw_ta0012_01.Holds :=
  Mine.joined Mine.all_facts
