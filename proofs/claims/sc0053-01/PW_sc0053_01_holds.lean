import PyProof.Rows.All
import Wide.All
import OpenK.AllK
import Wide.FinOn
import PySem.Challenge.RW_sc0053_01

set_option Elab.async false

section
open PySem PySem.W
set_option Elab.async false
set_option linter.unusedVariables false
set_option linter.unusedSectionVars false
namespace Mine
/-- what lies below was there ahead of the call -/
class Lim where
  n : Nat
variable [Lim]

/-- what a frame's namespace is: its free slots may change when an exception is under way; the module's own objects lie lower -/
noncomputable def Fra (b : Addr) (o : Obj) : Prop := Lim.n ≤ b ∧ ∃ es ep, o.data = .dict es ep
noncomputable def Kept (h' : Heap) (b : Addr) (o : Obj) : Prop := ∃ sl, h'.get? b = some { o with slots := sl } ∧ (Fra b o ∨ sl = o.slots)
noncomputable def Keep (h h' : Heap) : Prop := ∀ b o, h.get? b = some o → Kept h' b o
theorem Kept.of {h' : Heap} {b : Addr} {o : Obj} (e : h'.get? b = some o) : Kept h' b o := ⟨o.slots, e, .inr rfl⟩
theorem Kept.get {h' : Heap} {b : Addr} {o : Obj} (k : Kept h' b o) (n : ¬ Fra b o) : h'.get? b = some o := by
  obtain ⟨sl, h1, h2⟩ := k
  rcases h2 with h2 | h2
  · exact absurd h2 n
  · subst h2; exact h1
theorem Kept.trans {h h' : Heap} {b : Addr} {o : Obj} (k : Kept h b o) (k' : ∀ o', h.get? b = some o' → Kept h' b o') : Kept h' b o := by
  obtain ⟨sl, h1, h2⟩ := k
  obtain ⟨sl', h3, h4⟩ := k' _ h1
  refine ⟨sl', h3, ?_⟩
  rcases h2 with h2 | h2
  · exact .inl h2
  · subst h2
    exact h4
theorem Kept.alive {h' : Heap} {b : Addr} {o : Obj} (k : Kept h' b o) : ∃ o', h'.get? b = some o' := by
  obtain ⟨sl, h1, h2⟩ := k; exact ⟨_, h1⟩
theorem Kept.obj {h' : Heap} {b : Addr} {o : Obj} (k : Kept h' b o) : ∃ o', h'.get? b = some o' ∧ o'.data = o.data ∧ o'.cls = o.cls := by
  obtain ⟨sl, h1, h2⟩ := k; exact ⟨_, h1, rfl, rfl⟩
theorem Keep.of {h h' : Heap} (k : ∀ b o, h.get? b = some o → h'.get? b = some o) : Keep h h' := fun b o e => ⟨o.slots, k b o e, .inr rfl⟩
theorem Keep.rfl {h : Heap} : Keep h h := .of fun _ _ e => e
theorem Keep.trans {h h' h'' : Heap} (a : Keep h h') (b : Keep h' h'') : Keep h h'' := fun c o e => by
  obtain ⟨sl, h1, h2⟩ := a c o e
  obtain ⟨sl', h3, h4⟩ := b c _ h1
  refine ⟨sl', h3, ?_⟩
  rcases h2 with h2 | h2
  · exact .inl h2
  · subst h2
    exact h4
theorem Keep.get {h h' : Heap} (k : Keep h h') {b : Addr} {o : Obj} (e : h.get? b = some o) (n : ¬ Fra b o) : h'.get? b = some o := by
  obtain ⟨sl, h1, h2⟩ := k b o e
  rcases h2 with h2 | h2
  · exact absurd h2 n
  · subst h2; exact h1
theorem Keep.obj {h h' : Heap} (k : Keep h h') {b : Addr} {o : Obj} (e : h.get? b = some o) : ∃ o', h'.get? b = some o' ∧ o'.data = o.data ∧ o'.cls = o.cls := by
  obtain ⟨sl, h1, h2⟩ := k b o e
  exact ⟨_, h1, _root_.rfl, _root_.rfl⟩
theorem Keep.alive {h h' : Heap} (k : Keep h h') {b : Addr} (e : ∃ o, h.get? b = some o) : ∃ o, h'.get? b = some o := by
  obtain ⟨o, e⟩ := e
  obtain ⟨o', e', _⟩ := k.obj e
  exact ⟨o', e'⟩
theorem Keep.list {h h' : Heap} (k : Keep h h') {a : Addr} {items : Array Value} (e : h.IsList a items) : h'.IsList a items := by
  obtain ⟨o, ho, hc, hd⟩ := e
  obtain ⟨o', ho', d, c⟩ := k.obj ho
  exact ⟨o', ho', c ▸ hc, d ▸ hd⟩
theorem Keep.plain {h h' : Heap} (k : Keep h h') {a : Addr} {items : Array Value} (e : h.PlainList a items) : h'.PlainList a items := by
  obtain ⟨n, ho⟩ := e
  exact ⟨n, k.get ho fun q => by obtain ⟨_, es, ep, q⟩ := q; cases q⟩
theorem Keep.ns {h h' : Heap} (k : Keep h h') {a : Addr} {m : Str → Option Value} (e : h.Ns a m) : h'.Ns a m := by
  obtain ⟨o, es, ep, ho, hd, r⟩ := e
  obtain ⟨o', ho', d, c⟩ := k.obj ho
  exact ⟨o', es, ep, ho', d.trans hd, r⟩
theorem Keep.cell {h h' : Heap} (k : Keep h h') {a : Addr} {v : Option Value} (e : h.IsCell a v) : h'.IsCell a v := by
  obtain ⟨o, ho, hd⟩ := e
  obtain ⟨o', ho', d, c⟩ := k.obj ho
  exact ⟨o', ho', d.trans hd⟩
theorem Keep.lim {h h' : Heap} (k : Keep h h') (e : h.NoLimit) : h'.NoLimit := by
  obtain ⟨mc, hn, q⟩ := e
  exact ⟨mc, k.ns hn, q⟩
theorem Keep.code {h h' : Heap} (k : Keep h h') {cd : Value} {q : Str} (e : h.CodeRec cd q) : h'.CodeRec cd q := by
  obtain ⟨c, o, vs, t, e, g, d, r⟩ := e
  exact ⟨c, o, vs, t, e, k.get g (fun z => by obtain ⟨_, es, ep, z⟩ := z; rw [d] at z; cases z), d, r⟩
theorem Kept.ns {h h' : Heap} {a : Addr} {m : Str → Option Value} (e : h.Ns a m) (k : ∀ o, h.get? a = some o → Kept h' a o) : h'.Ns a m := by
  obtain ⟨o, es, ep, ho, hd, r⟩ := e
  obtain ⟨o', ho', d, c⟩ := (k o ho).obj
  exact ⟨o', es, ep, ho', d.trans hd, r⟩
theorem Kept.cell {h h' : Heap} {a : Addr} {v : Option Value} (e : h.IsCell a v) (k : ∀ o, h.get? a = some o → Kept h' a o) : h'.IsCell a v := by
  obtain ⟨o, ho, hd⟩ := e
  obtain ⟨o', ho', d, c⟩ := (k o ho).obj
  exact ⟨o', ho', d.trans hd⟩
theorem Kept.plain {h h' : Heap} {a : Addr} {items : Array Value} (e : h.PlainList a items) (k : ∀ o, h.get? a = some o → Kept h' a o) : h'.PlainList a items := by
  obtain ⟨n, ho⟩ := e
  exact ⟨n, (k _ ho).get fun q => by obtain ⟨_, es, ep, q⟩ := q; cases q⟩
theorem Keep.trans' {h h' h'' : Heap} {X : Addr → Prop} (a : Keep h h') (hX : ∀ b, X b → h.get? b = none) (b : ∀ b o, ¬ X b → h'.get? b = some o → Kept h'' b o) : Keep h h'' := fun c o e => by
  obtain ⟨sl, h1, h2⟩ := a c o e
  obtain ⟨sl', h3, h4⟩ := b c _ (fun x => by rw [hX c x] at e; cases e) h1
  refine ⟨sl', h3, ?_⟩
  rcases h2 with h2 | h2
  · exact .inl h2
  · subst h2
    exact h4
theorem not_fra {b : Addr} {o : Obj} (n : ∀ es ep, o.data ≠ .dict es ep) : ¬ Fra b o := fun ⟨_, es, ep, e⟩ => n es ep e

noncomputable def Keeps (s s' : Shared) : Prop := ∃ h' tk, s' = { s with heap := h', toks := tk } ∧ Keep s.heap h'
theorem Keeps.of {s s' : Shared} (k : PySem.Keeps s s') : Keeps s s' := by
  obtain ⟨h, t, e, k⟩ := k; exact ⟨h, t, e, .of k⟩
theorem keeps_refl (s : Shared) : Keeps s s := ⟨s.heap, s.toks, rfl, .rfl⟩
theorem keeps_trans {s s' s'' : Shared} (a : Keeps s s') (b : Keeps s' s'') : Keeps s s'' := by
  obtain ⟨h, t, rfl, k⟩ := a
  obtain ⟨h', t', rfl, k'⟩ := b
  exact ⟨h', t', rfl, k.trans k'⟩
theorem keeps_keep {s s' : Shared} (a : Keeps s s') : Keep s.heap s'.heap := by
  obtain ⟨h, t, rfl, k⟩ := a; exact k
theorem keeps_tok (s : Shared) (t : Nat) : Keeps s { s with toks := t } := ⟨s.heap, t, rfl, .rfl⟩
theorem keeps_mk {s : Shared} {h : Heap} {t : Nat} (k : Keep s.heap h) : Keeps s { s with heap := h, toks := t } := ⟨h, t, rfl, k⟩

/-- how a Lean value is borne by the heap; the addresses that bear it satisfy `P` -/
structure Rel (α : Type) where
  is : (Addr → Prop) → Heap → Value → α → Prop
  mono : ∀ {P P' : Addr → Prop} {h h' : Heap} {v : Value} {x : α}, (∀ b o, P b → h.get? b = some o → P' b) → Keep h h' → is P h v x → is P' h' v x
/-- the kinds of objects that may bear a value -/
noncomputable def Kd (o : Obj) : Prop := match o.data with
  | .seq .. => True
  | .func .. => True
  | .cell .. => True
  | .fields vs => ∃ q t, vs[1]? = some (.str q t)
  | _ => False
/-- all that bears it satisfies `P` -/
noncomputable def Solid {α : Type} (r : Rel α) : Prop :=
  ∀ {P P' : Addr → Prop} {h h' : Heap} {v : Value} {x : α}, (∀ b o, P b → Kd o → h.get? b = some o → P' b ∧ h'.get? b = some o) → r.is P h v x → r.is P' h' v x
theorem Kd.not_fra {b : Addr} {o : Obj} (k : Kd o) : ¬ Fra b o := fun q => by
  obtain ⟨_, es, ep, e⟩ := q
  unfold Kd at k; rw [e] at k; exact k
theorem kd_seq {o : Obj} {xs n} (h : o.data = .seq xs n) : Kd o := by unfold Kd; rw [h]; trivial

noncomputable def rInt : Rel Int := ⟨fun _ _ v i => ∃ t, v = .int i t, fun _ _ e => e⟩
noncomputable def rBool : Rel Bool := ⟨fun _ _ v b => v = .bool b, fun _ _ e => e⟩
noncomputable def rNone : Rel Unit := ⟨fun _ _ v _ => v = .none, fun _ _ e => e⟩
noncomputable def rFlt : Rel UInt64 := ⟨fun _ _ v x => ∃ t, v = .float x t, fun _ _ e => e⟩
noncomputable def rStr : Rel Str := ⟨fun _ _ v x => ∃ t, v = .str x t, fun _ _ e => e⟩
noncomputable def rVal : Rel Value := ⟨fun _ _ v x => v = x, fun _ _ e => e⟩
/-- an address that lies as it is -/
noncomputable def rAddr : Rel Addr := ⟨fun _ _ v x => v = .ref x, fun _ _ e => e⟩
theorem solid_int : Solid rInt := fun _ e => e
theorem solid_bool : Solid rBool := fun _ e => e
theorem solid_none : Solid rNone := fun _ e => e
theorem solid_flt : Solid rFlt := fun _ e => e
theorem solid_str : Solid rStr := fun _ e => e
theorem solid_val : Solid rVal := fun _ e => e
theorem solid_addr : Solid rAddr := fun _ e => e

theorem paired_imp {α β : Type} {F G : α → β → Prop} (h : ∀ a b, F a b → G a b) : ∀ {l : List α} {m : List β}, Paired F l m → Paired G l m
  | _, _, .nil => .nil
  | _, _, .cons a t => .cons (h _ _ a) (paired_imp h t)
theorem paired_get {α β : Type} {F : α → β → Prop} : ∀ {l : List α} {m : List β}, Paired F l m → ∀ (i : Nat) (y : β), m[i]? = some y → ∃ x, l[i]? = some x ∧ F x y
  | _, _, .nil, i, y, e => by cases e
  | _, _, .cons a t, 0, y, e => by cases e; exact ⟨_, rfl, a⟩
  | _, _, .cons a t, i + 1, y, e => paired_get t i y e
theorem paired_get' {α β : Type} {F : α → β → Prop} : ∀ {l : List α} {m : List β}, Paired F l m → ∀ (i : Nat) (x : α), l[i]? = some x → ∃ y, m[i]? = some y ∧ F x y
  | _, _, .nil, i, y, e => by cases e
  | _, _, .cons a t, 0, y, e => by cases e; exact ⟨_, rfl, a⟩
  | _, _, .cons a t, i + 1, y, e => paired_get' t i y e
theorem paired_append {α β : Type} {F : α → β → Prop} : ∀ {l l' : List α} {m m' : List β}, Paired F l m → Paired F l' m' → Paired F (l ++ l') (m ++ m')
  | _, _, _, _, .nil, h => h
  | _, _, _, _, .cons a t, h => .cons a (paired_append t h)
theorem paired_take {α β : Type} {F : α → β → Prop} : ∀ {l : List α} {m : List β} (n : Nat), Paired F l m → Paired F (l.take n) (m.take n)
  | _, _, 0, _ => by simp only [List.take_zero]; exact .nil
  | _, _, n + 1, .nil => .nil
  | _, _, n + 1, .cons a t => .cons a (paired_take n t)
theorem paired_drop {α β : Type} {F : α → β → Prop} : ∀ {l : List α} {m : List β} (n : Nat), Paired F l m → Paired F (l.drop n) (m.drop n)
  | _, _, 0, h => h
  | _, _, n + 1, .nil => .nil
  | _, _, n + 1, .cons a t => paired_drop n t
theorem paired_reverse {α β : Type} {F : α → β → Prop} {l : List α} {m : List β} (h : Paired F l m) : Paired F l.reverse m.reverse := by
  induction h with
  | nil => exact .nil
  | cons a t ih => rw [List.reverse_cons, List.reverse_cons]; exact paired_append ih (.cons a .nil)
theorem paired_set {α β : Type} {F : α → β → Prop} {x : α} {y : β} (hxy : F x y) : ∀ {l : List α} {m : List β} (n : Nat), Paired F l m → Paired F (l.set n x) (m.set n y)
  | _, _, _, .nil => by simp only [List.set_nil]; exact .nil
  | _, _, 0, .cons a t => .cons hxy t
  | _, _, n + 1, .cons a t => .cons a (paired_set hxy n t)

noncomputable def rList {α : Type} (r : Rel α) : Rel (List α) :=
  ⟨fun P h v xs => ∃ a items, v = .ref a ∧ P a ∧ h.IsList a items ∧ Paired (r.is P h) items.toList xs, fun {P P' h h' v x} p k e => by
    obtain ⟨a, items, rfl, hp, hl, hi⟩ := e
    obtain ⟨o, ho, _⟩ := id hl
    exact ⟨a, items, rfl, p a o hp ho, k.list hl, paired_imp (fun _ _ y => r.mono p k y) hi⟩⟩
theorem solid_list {α : Type} {r : Rel α} (s : Solid r) : Solid (rList r) := fun {P P' h h' v x} k e => by
    obtain ⟨a, items, rfl, hp, ⟨o, ho, hc, hd⟩, hi⟩ := e
    have z := k a o hp (let ⟨_, e⟩ := hd; kd_seq e) ho
    exact ⟨a, items, rfl, z.1, ⟨o, z.2, hc, hd⟩, paired_imp (fun _ _ y => s k y) hi⟩
/-- the list's own address may lie anywhere -/
noncomputable def rRoot {α : Type} (r : Rel α) : Rel (List α) :=
  ⟨fun P h v xs => ∃ a items, v = .ref a ∧ h.IsList a items ∧ Paired (r.is P h) items.toList xs, fun {P P' h h' v x} p k e => by
    obtain ⟨a, items, rfl, hl, hi⟩ := e
    exact ⟨a, items, rfl, k.list hl, paired_imp (fun _ _ y => r.mono p k y) hi⟩⟩
theorem root_of {α : Type} {r : Rel α} {P : Addr → Prop} {h : Heap} {v : Value} {xs : List α} (e : (rList r).is P h v xs) : (rRoot r).is P h v xs := by
  obtain ⟨a, items, rfl, hp, hl, hi⟩ := e
  exact ⟨a, items, rfl, hl, hi⟩

theorem Rel.keep {α : Type} (r : Rel α) {P : Addr → Prop} {h h' : Heap} {v : Value} {x : α} (k : Keep h h') (e : r.is P h v x) : r.is P h' v x := r.mono (fun _ _ p _ => p) k e
theorem Rel.weak {α : Type} (r : Rel α) {P P' : Addr → Prop} {h : Heap} {v : Value} {x : α} (p : ∀ b o, P b → h.get? b = some o → P' b) (e : r.is P h v x) : r.is P' h v x := r.mono p Keep.rfl e

structure Bnd where
  name : Str
  {α : Type}
  r : Rel α
  x : α

/-- the name stands for the value in the block's frame -/
noncomputable def VarIs (h : Heap) (env : Env) (x : Str) (v : Value) : Prop :=
  (env.kindOf x = some .local ∧ ∃ m, h.Ns env.locals m ∧ m x = some v) ∨
  ((env.kindOf x = some .cell ∨ env.kindOf x = some .free) ∧ ∃ c, env.cells.lookup x = some c ∧ h.IsCell c (some v))

theorem VarIs.keep {h h' : Heap} {env : Env} {x : Str} {v : Value} (k : Keep h h') (e : VarIs h env x v) : VarIs h' env x v := by
  rcases e with ⟨a, m, hn, hv⟩ | ⟨a, c, hc, hv⟩
  · exact .inl ⟨a, m, k.ns hn, hv⟩
  · exact .inr ⟨a, c, hc, k.cell hv⟩

noncomputable def Vars (P : Addr → Prop) (h : Heap) (env : Env) (Γ : List Bnd) : Prop := ∀ b ∈ Γ, ∃ v, VarIs h env b.name v ∧ b.r.is P h v b.x
theorem Vars.keep {P : Addr → Prop} {h h' : Heap} {env : Env} {Γ : List Bnd} (k : Keep h h') (e : Vars P h env Γ) : Vars P h' env Γ := fun b hb =>
  let ⟨v, a, c⟩ := e b hb; ⟨v, a.keep k, b.r.keep k c⟩

/-- what is shut out is taken, by no record; the frames under way are shut out -/
structure Free (A : Around) (P : Addr → Prop) (h : Heap) : Prop where
  ta : ∀ b, ¬ P b → ∃ o, h.get? b = some o ∧ ∀ vs, o.data ≠ .fields vs
  fr : ∃ l, A.frames = some l ∧ ∀ e ∈ l, e.scope.kind ≠ .module ∧ ∃ L, e.frame = some L ∧ Lim.n ≤ L ∧ ¬ P L ∧ ∃ m, h.Ns L m
theorem Free.fr' {A : Around} {P P' : Addr → Prop} {h h' : Heap} (e : Free A P h) (hP : ∀ b, ¬ P b → ¬ P' b) (k : ∀ L m, ¬ P L → h.Ns L m → ∃ m', h'.Ns L m') :
    ∃ l, A.frames = some l ∧ ∀ e ∈ l, e.scope.kind ≠ .module ∧ ∃ L, e.frame = some L ∧ Lim.n ≤ L ∧ ¬ P' L ∧ ∃ m, h'.Ns L m := by
  obtain ⟨l, hl, hq⟩ := e.fr
  refine ⟨l, hl, fun x hx => ⟨(hq x hx).1, ?_⟩⟩
  obtain ⟨L, h1, h2, h3, m, h4⟩ := (hq x hx).2
  exact ⟨L, h1, h2, hP L h3, k L m h3 h4⟩
theorem Free.keep {A : Around} {P : Addr → Prop} {h h' : Heap} (k : Keep h h') (e : Free A P h) : Free A P h' :=
  ⟨fun b hb => by
    obtain ⟨o, ho, n⟩ := e.ta b hb
    obtain ⟨o', ho', d, _⟩ := k.obj ho
    exact ⟨o', ho', fun vs => d ▸ n vs⟩, e.fr' (fun _ => id) fun L m _ q => ⟨m, k.ns q⟩⟩
theorem Free.at {A : Around} {P : Addr → Prop} {h : Heap} (e : Free A P h) (b : Addr) (hb : ¬ P b) : ∃ o, h.get? b = some o := by
  obtain ⟨o, ho, _⟩ := e.ta b hb; exact ⟨o, ho⟩
theorem get_size (h : Heap) : h.get? h.objs.size = none := by
  cases e : h.get? h.objs.size with
  | none => rfl
  | some o => exact absurd (Heap.lt_size e) (Nat.lt_irrefl _)
theorem Free.new {A : Around} {P : Addr → Prop} {h : Heap} (e : Free A P h) : P h.objs.size := by
  apply Classical.byContradiction
  intro hn
  obtain ⟨o, ho⟩ := e.at _ hn
  rw [get_size] at ho; cases ho

noncomputable def Lv (n : Nat) (A : Around) : Prop := A.handled = none ∧ A.depth + n < recursionLimit ∧ A.units + 40 * n + 40 < cLine
theorem Lv.le {n m : Nat} {A : Around} (h : Lv n A) (k : m ≤ n) : Lv m A := ⟨h.1, by have := h.2.1; omega, by have := h.2.2; omega⟩
theorem Lv.deeper {n : Nat} {A : Around} (env : Env) (h : Lv (n + 1) A) : Lv n (A.deeper env) :=
  ⟨h.1, by have := h.2.1; show A.depth + 1 + n < _; omega, by have := h.2.2; show A.units + 3 + 40 * n + 40 < _; omega⟩
theorem Lv.room {n : Nat} {A : Around} (h : Lv n A) : A.depth < recursionLimit := by have := h.2.1; omega
theorem Lv.units {n : Nat} {A : Around} (h : Lv n A) : A.units < cLine := by have := h.2.2; omega

/-- what the block's table says of its names, and where its cells lie -/
structure EnvOk (sc : Scope) (env : Env) : Prop where
  kind : env.scope.kind = .function
  glob : env.globals = mainGlobals
  bi : env.builtins = builtinsNs
  loc : ∀ x, sc.names.lookup x = some .local → env.kindOf x = some .local
  cel : ∀ x, sc.names.lookup x = some .cell → env.kindOf x = some .cell ∧ ∃ c, env.cells.lookup x = some c
  fre : ∀ x, sc.names.lookup x = some .free → (env.kindOf x = some .cell ∨ env.kindOf x = some .free) ∧ ∃ c, env.cells.lookup x = some c
  gl : ∀ x, sc.names.lookup x = some .globalImplicit → env.kindOf x = some .globalImplicit
  apart : ∀ x y c, env.cells.lookup x = some c → env.cells.lookup y = some c → x = y

noncomputable def builtinList : List (Str × Value) := [("len", .builtin "len"), ("range", .type "range"), ("max", .builtin "max"), ("sum", .builtin "sum"), ("sorted", .builtin "sorted"), ("isinstance", .builtin "isinstance"),
  ("divmod", .builtin "divmod"), ("float", .type "float"), ("list", .type "list"), ("ValueError", .type "ValueError")]
/-- a def of the text: its signature, its block, its table, and what its binder makes of arguments -/
structure Fn where
  params : Arguments
  body : List Stmt
  scope : Scope
  bind : Args → List (Str × Value) → Prop
structure FnOk (h : Heap) (a : Addr) (F : Fn) : Prop where
  ok : ∃ o fd, h.get? a = some o ∧ o.data = .func fd ∧ fd.params = F.params ∧ fd.body = .stmts F.body ∧ fd.scope = F.scope ∧ fd.globals = mainGlobals ∧ fd.closure = [] ∧ fd.builtins = builtinsNs ∧ h.CodeRec fd.code fd.qualname ∧
    ∀ (s : Shared) args binds, Keep h s.heap → F.bind args binds → BindsTo s fd args binds
theorem FnOk.keep {h h' : Heap} {a : Addr} {F : Fn} (k : Keep h h') (e : FnOk h a F) : FnOk h' a F := by
  obtain ⟨o, fd, h1, h2, h3, h4, h5, h6, h7, h8, h9, h10⟩ := e.ok
  exact ⟨o, fd, k.get h1 (not_fra fun _ _ q => by rw [h2] at q; cases q), h2, h3, h4, h5, h6, h7, h8, k.code h9, fun s args binds kk => h10 s args binds (k.trans kk)⟩

structure Wd where
  mg : Str → Option Value
  mb : Str → Option Value
  bl : ∀ p ∈ builtinList, mg p.1 = none ∧ mb p.1 = some p.2
  fn : Str → Option (Addr × Fn)
  fl : ∀ x a F, fn x = some (a, F) → mg x = some (.ref a)

/-- the world: the module's names, the built-in ones, no limit set -/
structure Wd.Ok (D : Wd) (h : Heap) : Prop where
  g : h.Ns mainGlobals D.mg
  b : h.Ns builtinsNs D.mb
  lim : h.NoLimit
  big : ∃ b o, Lim.n ≤ b + 1 ∧ h.get? b = some o
  fns : ∀ x a F, D.fn x = some (a, F) → FnOk h a F
theorem Wd.Ok.size {D : Wd} {h : Heap} (e : D.Ok h) : Lim.n ≤ h.objs.size := let ⟨_, _, hn, ho⟩ := e.big; Nat.le_trans hn (Heap.lt_size ho)
theorem Wd.Ok.keep {D : Wd} {h h' : Heap} (k : Keep h h') (e : D.Ok h) : D.Ok h' := ⟨k.ns e.g, k.ns e.b, k.lim e.lim, (let ⟨b, o, hn, ho⟩ := e.big; let ⟨o', h'⟩ := k.alive ⟨o, ho⟩; ⟨b, o', hn, h'⟩), fun x a F q => (e.fns x a F q).keep k⟩

section
variable (prog : Program) (w : World) (D : Wd)
/-- in every state where the names stand for `Γ`, the expression gives `x`, and every elder object lies as it lay -/
noncomputable def Ev {α : Type} (n : Nat) (sc : Scope) (Γ : List Bnd) (P : Addr → Prop) (e : Expr) (r : Rel α) (x : α) : Prop :=
  ∀ A env s (E : Value → Shared → Prop), Lv n A → EnvOk sc env → D.Ok s.heap → Free A P s.heap → Vars P s.heap env Γ →
    wpAny (model prog w) A (eval e env) (fun v s' => Keeps s s' ∧ r.is P s'.heap v x) E s
/-- the same of a test -/
noncomputable def Et (n : Nat) (sc : Scope) (Γ : List Bnd) (P : Addr → Prop) (e : Expr) (b : Bool) : Prop :=
  ∀ A env s (E : Value → Shared → Prop), Lv n A → EnvOk sc env → D.Ok s.heap → Free A P s.heap → Vars P s.heap env Γ →
    wpAny (model prog w) A (isTrue e env (eval e env)) (fun c s' => Keeps s s' ∧ c = b) E s
end

section
variable {prog : Program} {w : World} {D : Wd} {n : Nat} {sc : Scope} {Γ : List Bnd} {P : Addr → Prop}

theorem Ev.var {α : Type} {x : Str} {pos : Pos} {r : Rel α} {y : α} (hm : (⟨x, r, y⟩ : Bnd) ∈ Γ := by repeat (first | exact List.Mem.head _ | apply List.Mem.tail)) (hd : (x == ("__debug__" : Str)) = false := by decide) (hc : (x == ("__classdict__" : Str)) = false := by decide) :
    Ev prog w D n sc Γ P (.Name x pos) r y := by
  intro A env s E hL hE hW hF hV
  obtain ⟨v, a, c⟩ := hV _ hm
  have q : Keeps s s ∧ r.is P s.heap v y := ⟨keeps_refl s, c⟩
  rcases a with ⟨hk, m, hn, hv⟩ | ⟨hk | hk, cc, hcc, hv⟩
  · exact wpAny_Name (wpAny_loadName_local hE.kind hk hn hv q) hd
  · exact wpAny_Name (wpAny_loadName_cell hE.kind hk hcc hv q) hd
  · exact wpAny_Name (wpAny_loadName_free hE.kind hk hcc hv q hc) hd

theorem Ev.glob {x : Str} {pos : Pos} {v : Value} (hx : sc.names.lookup x = some .globalImplicit) (hv : D.mg x = some v) (hd : (x == ("__debug__" : Str)) = false := by decide) :
    Ev prog w D n sc Γ P (.Name x pos) rVal v := by
  intro A env s E hL hE hW hF hV
  exact Calls.Name_function_global hE.kind (hE.gl _ hx) (Calls.loadGlobal_global (hE.glob ▸ hW.g) hv ⟨keeps_refl s, rfl⟩) hd

theorem Ev.built {x : Str} {pos : Pos} {v : Value} (hx : sc.names.lookup x = some .globalImplicit) (hg : D.mg x = none) (hv : D.mb x = some v) (hd : (x == ("__debug__" : Str)) = false := by decide) :
    Ev prog w D n sc Γ P (.Name x pos) rVal v := by
  intro A env s E hL hE hW hF hV
  exact Calls.Name_function_global hE.kind (hE.gl _ hx) (Calls.loadGlobal_builtin (hE.glob ▸ hW.g) hg (hE.bi ▸ hW.b) hv ⟨keeps_refl s, rfl⟩) hd

theorem Ev.root {α : Type} {e : Expr} {r : Rel α} {xs : List α} (h : Ev prog w D n sc Γ P e (rList r) xs) : Ev prog w D n sc Γ P e (rRoot r) xs :=
  fun A env s E hL hE hW hF hV => wpAny_mono (h A env s E hL hE hW hF hV) (fun v s' k => ⟨k.1, root_of k.2⟩) fun _ _ e => e

theorem Ev.int {i : Int} {k : Nat} {pos : Pos} : Ev prog w D n sc Γ P (.Constant (.int i) k pos) rInt i := by
  intro A env s E hL hE hW hF hV
  exact wpAny_Constant_int ⟨keeps_tok s _, _, rfl⟩

end
end Mine
end

section
open PySem PySem.W
set_option Elab.async false
set_option linter.unusedVariables false
set_option linter.unusedSectionVars false
namespace Mine
variable [Lim]
section
variable {prog : Program} {w : World} {D : Wd} {n : Nat} {sc : Scope} {Γ : List Bnd} {P : Addr → Prop}

theorem Ev.mono {α : Type} {m : Nat} {e : Expr} {r : Rel α} {x : α} (h : Ev prog w D m sc Γ P e r x) (k : m ≤ n) : Ev prog w D n sc Γ P e r x :=
  fun A env s E hL hE hW hF hV => h A env s E (hL.le k) hE hW hF hV
theorem Et.mono {m : Nat} {e : Expr} {b : Bool} (h : Et prog w D m sc Γ P e b) (k : m ≤ n) : Et prog w D n sc Γ P e b :=
  fun A env s E hL hE hW hF hV => h A env s E (hL.le k) hE hW hF hV
theorem Ev.ctx {α : Type} {Δ : List Bnd} {e : Expr} {r : Rel α} {x : α} (h : Ev prog w D n sc Δ P e r x) (k : ∀ b ∈ Δ, b ∈ Γ) : Ev prog w D n sc Γ P e r x :=
  fun A env s E hL hE hW hF hV => h A env s E hL hE hW hF fun b hb => hV b (k b hb)
theorem Ev.cast {α : Type} {e : Expr} {r : Rel α} {x y : α} (h : Ev prog w D n sc Γ P e r x) (k : x = y) : Ev prog w D n sc Γ P e r y := k ▸ h
theorem Et.cast {e : Expr} {x y : Bool} (h : Et prog w D n sc Γ P e x) (k : x = y) : Et prog w D n sc Γ P e y := k ▸ h

theorem Ev.none {k : Nat} {pos : Pos} : Ev prog w D n sc Γ P (.Constant .none k pos) rNone () :=
  fun A env s E hL hE hW hF hV => wpAny_Constant_none ⟨keeps_refl s, rfl⟩
theorem Ev.bool {b : Bool} {k : Nat} {pos : Pos} : Ev prog w D n sc Γ P (.Constant (.bool b) k pos) rBool b :=
  fun A env s E hL hE hW hF hV => wpAny_Constant_bool ⟨keeps_refl s, rfl⟩
theorem Ev.str {x : Str} {k : Nat} {pos : Pos} : Ev prog w D n sc Γ P (.Constant (.str x) k pos) rStr x :=
  fun A env s E hL hE hW hF hV => wpAny_Constant_str ⟨keeps_tok s _, _, rfl⟩

/-- an operation on two values that are borne -/
noncomputable def Op2 {α β γ : Type} (prog : Program) (w : World) (D : Wd) (n : Nat) (P : Addr → Prop) (f : Value → Value → Sem Value) (r₁ : Rel α) (x : α) (r₂ : Rel β) (y : β) (r₃ : Rel γ) (z : γ) : Prop :=
  ∀ A s (E : Value → Shared → Prop) v u, Lv n A → D.Ok s.heap → Free A P s.heap → r₁.is P s.heap v x → r₂.is P s.heap u y →
    wpAny (model prog w) A (f v u) (fun q s' => Keeps s s' ∧ r₃.is P s'.heap q z) E s

theorem Ev.bin {α β γ : Type} {r₁ : Rel α} {x : α} {r₂ : Rel β} {y : β} {r₃ : Rel γ} {z : γ} {l r : Expr} {op : Operator} {pos : Pos}
    (hl : Ev prog w D n sc Γ P l r₁ x) (hr : Ev prog w D n sc Γ P r r₂ y) (ho : Op2 prog w D n P (binaryOp op) r₁ x r₂ y r₃ z) :
    Ev prog w D n sc Γ P (.BinOp l op r pos) r₃ z := by
  intro A env s E hL hE hW hF hV
  refine wpAny_BinOp (wpAny_mono (hl A env s E hL hE hW hF hV) (fun v s₁ h₁ => ?_) fun _ _ e => e)
  have k₁ := keeps_keep h₁.1
  refine wpAny_mono (hr A env s₁ E hL hE (hW.keep k₁) (hF.keep k₁) (hV.keep k₁)) (fun u s₂ h₂ => ?_) fun _ _ e => e
  have k₂ := keeps_keep h₂.1
  exact wpAny_mono (ho A s₂ E v u hL ((hW.keep k₁).keep k₂) ((hF.keep k₁).keep k₂) (r₁.keep k₂ h₁.2) h₂.2) (fun q s₃ h₃ => ⟨keeps_trans h₁.1 (keeps_trans h₂.1 h₃.1), h₃.2⟩) fun _ _ e => e

theorem Ev.cmp {α β : Type} {r₁ : Rel α} {x : α} {r₂ : Rel β} {y : β} {z : Bool} {l r : Expr} {op : CmpOp} {pos : Pos}
    (hl : Ev prog w D n sc Γ P l r₁ x) (hr : Ev prog w D n sc Γ P r r₂ y) (ho : Op2 prog w D n P (compareOp op) r₁ x r₂ y rBool z) (hm : behindInMarks op r = false := by with_unfolding_all rfl) :
    Ev prog w D n sc Γ P (.Compare l [op] [r] pos) rBool z := by
  intro A env s E hL hE hW hF hV
  refine wpAny_Compare1 (wpAny_mono (hl A env s E hL hE hW hF hV) (fun v s₁ h₁ => ?_) fun _ _ e => e) hm
  have k₁ := keeps_keep h₁.1
  refine wpAny_mono (hr A env s₁ E hL hE (hW.keep k₁) (hF.keep k₁) (hV.keep k₁)) (fun u s₂ h₂ => ?_) fun _ _ e => e
  have k₂ := keeps_keep h₂.1
  exact wpAny_mono (ho A s₂ E v u hL ((hW.keep k₁).keep k₂) ((hF.keep k₁).keep k₂) (r₁.keep k₂ h₁.2) h₂.2) (fun q s₃ h₃ => ⟨keeps_trans h₁.1 (keeps_trans h₂.1 h₃.1), h₃.2⟩) fun _ _ e => e

theorem Et.cmp {α β : Type} {r₁ : Rel α} {x : α} {r₂ : Rel β} {y : β} {z : Bool} {l r : Expr} {op : CmpOp} {pos : Pos}
    (hl : Ev prog w D n sc Γ P l r₁ x) (hr : Ev prog w D n sc Γ P r r₂ y) (ho : Op2 prog w D n P (compareOp op) r₁ x r₂ y rBool z) (hm : behindInMarks op r = false := by with_unfolding_all rfl) :
    Et prog w D n sc Γ P (.Compare l [op] [r] pos) z := by
  intro A env s E hL hE hW hF hV
  refine wpAny_isTrue_Compare1 (wpAny_mono (hl A env s E hL hE hW hF hV) (fun v s₁ h₁ => ?_) fun _ _ e => e) hm
  have k₁ := keeps_keep h₁.1
  refine wpAny_mono (hr A env s₁ E hL hE (hW.keep k₁) (hF.keep k₁) (hV.keep k₁)) (fun u s₂ h₂ => ?_) fun _ _ e => e
  have k₂ := keeps_keep h₂.1
  refine wpAny_mono (ho A s₂ E v u hL ((hW.keep k₁).keep k₂) ((hF.keep k₁).keep k₂) (r₁.keep k₂ h₁.2) h₂.2) (fun q s₃ h₃ => ?_) fun _ _ e => e
  obtain ⟨k₃, rfl⟩ := h₃
  exact wpAny_truthy_bool ⟨keeps_trans h₁.1 (keeps_trans h₂.1 k₃), rfl⟩

theorem Et.val {e : Expr} {b : Bool} (h : Ev prog w D n sc Γ P e rBool b) (he : ∀ env whole, isTrue e env whole = (do let v ← whole; standAt e.pos; holding [v] (truthy v)) := by intro _ _; rfl) : Et prog w D n sc Γ P e b := by
  intro A env s E hL hE hW hF hV
  refine wpAny_isTrue_value (wpAny_mono (h A env s E hL hE hW hF hV) (fun v s₁ h₁ => ?_) fun _ _ e => e) (he _ _)
  obtain ⟨k₁, rfl⟩ := h₁
  exact wpAny_truthy_bool ⟨k₁, rfl⟩

theorem Et.and {x y : Expr} {pos : Pos} {a b : Bool} (hx : Et prog w D n sc Γ P x a) (hy : a = true → Et prog w D n sc Γ P y b) : Et prog w D n sc Γ P (.BoolOp .And [x, y] pos) (a && b) := by
  intro A env s E hL hE hW hF hV
  refine wpAny_isTrue_BoolOp (wpAny_allTrue_And_cons (wpAny_mono (hx A env s E hL hE hW hF hV) (fun c s₁ h₁ => ?_) fun _ _ e => e))
  obtain ⟨k, rfl⟩ := h₁
  have k₁ := keeps_keep k
  cases c with
  | false => simp only [Bool.false_eq_true, if_false, Bool.false_and]; exact ⟨k, by simp⟩
  | true =>
    simp only [if_true, Bool.true_and]
    refine wpAny_allTrue_And_cons (wpAny_mono (hy rfl A env s₁ E hL hE (hW.keep k₁) (hF.keep k₁) (hV.keep k₁)) (fun d s₂ h₂ => ?_) fun _ _ e => e)
    obtain ⟨k', rfl⟩ := h₂
    cases d with
    | false => simp only [Bool.false_eq_true, if_false]; exact ⟨keeps_trans k k', by simp⟩
    | true => simp only [if_true]; exact wpAny_allTrue_And_nil ⟨keeps_trans k k', by simp⟩

theorem Et.or {x y : Expr} {pos : Pos} {a b : Bool} (hx : Et prog w D n sc Γ P x a) (hy : a = false → Et prog w D n sc Γ P y b) : Et prog w D n sc Γ P (.BoolOp .Or [x, y] pos) (a || b) := by
  intro A env s E hL hE hW hF hV
  refine wpAny_isTrue_BoolOp (wpAny_allTrue_Or_cons (wpAny_mono (hx A env s E hL hE hW hF hV) (fun c s₁ h₁ => ?_) fun _ _ e => e))
  obtain ⟨k, rfl⟩ := h₁
  have k₁ := keeps_keep k
  cases c with
  | true => simp only [if_true, Bool.true_or]; exact ⟨k, by simp⟩
  | false =>
    simp only [Bool.false_eq_true, if_false, Bool.false_or]
    refine wpAny_allTrue_Or_cons (wpAny_mono (hy rfl A env s₁ E hL hE (hW.keep k₁) (hF.keep k₁) (hV.keep k₁)) (fun d s₂ h₂ => ?_) fun _ _ e => e)
    obtain ⟨k', rfl⟩ := h₂
    cases d with
    | true => simp only [if_true]; exact ⟨keeps_trans k k', by simp⟩
    | false => simp only [Bool.false_eq_true, if_false]; exact wpAny_allTrue_Or_nil ⟨keeps_trans k k', by simp⟩

theorem Ev.ite {α : Type} {r : Rel α} {x y : α} {t b o : Expr} {pos : Pos} {c : Bool} (ht : Et prog w D n sc Γ P t c) (hb : c = true → Ev prog w D n sc Γ P b r x) (ho : c = false → Ev prog w D n sc Γ P o r y) :
    Ev prog w D n sc Γ P (.IfExp t b o pos) r (if c then x else y) := by
  intro A env s E hL hE hW hF hV
  refine wpAny_IfExp (wpAny_mono (ht A env s E hL hE hW hF hV) (fun d s₁ h₁ => ?_) fun _ _ e => e)
  obtain ⟨k, rfl⟩ := h₁
  have k₁ := keeps_keep k
  cases d with
  | true =>
    simp only [if_true]
    exact wpAny_mono (hb rfl A env s₁ E hL hE (hW.keep k₁) (hF.keep k₁) (hV.keep k₁)) (fun d s₂ h₂ => ⟨keeps_trans k h₂.1, h₂.2⟩) fun _ _ e => e
  | false =>
    simp only [Bool.false_eq_true, if_false]
    exact wpAny_mono (ho rfl A env s₁ E hL hE (hW.keep k₁) (hF.keep k₁) (hV.keep k₁)) (fun d s₂ h₂ => ⟨keeps_trans k h₂.1, h₂.2⟩) fun _ _ e => e

theorem Ev.neg {a : Int} {e : Expr} {pos : Pos} (h : Ev prog w D n sc Γ P e rInt a) : Ev prog w D n sc Γ P (.UnaryOp .USub e pos) rInt (-a) := by
  intro A env s E hL hE hW hF hV
  refine wpAny_UnaryOp (wpAny_mono (h A env s E hL hE hW hF hV) (fun v s₁ h₁ => ?_) fun _ _ e => e)
  obtain ⟨k, t, rfl⟩ := h₁
  exact PyProof.Rows.neg_int ⟨keeps_trans k (keeps_tok s₁ _), _, rfl⟩

-- ints
theorem op_add (a b : Int) : Op2 prog w D n P (binaryOp .Add) rInt a rInt b rInt (a + b) := by
  rintro A s E v u hL hW hF ⟨t, rfl⟩ ⟨t', rfl⟩
  exact PyProof.Rows.add_int ⟨keeps_tok s _, _, rfl⟩
theorem op_sub (a b : Int) : Op2 prog w D n P (binaryOp .Sub) rInt a rInt b rInt (a - b) := by
  rintro A s E v u hL hW hF ⟨t, rfl⟩ ⟨t', rfl⟩
  exact PyProof.Rows.sub_int ⟨keeps_tok s _, _, rfl⟩
theorem op_mul (a b : Int) (hm : IntMulOk a b) : Op2 prog w D n P (binaryOp .Mult) rInt a rInt b rInt (a * b) := by
  rintro A s E v u hL hW hF ⟨t, rfl⟩ ⟨t', rfl⟩
  exact PyProof.Rows.mul_int ⟨keeps_tok s _, _, rfl⟩ hm
theorem op_mod (a b : Int) (hb : b ≠ 0) : Op2 prog w D n P (binaryOp .Mod) rInt a rInt b rInt (a.fmod b) := by
  rintro A s E v u hL hW hF ⟨t, rfl⟩ ⟨t', rfl⟩
  exact PyProof.Rows.mod_int' hb ⟨keeps_tok s _, _, rfl⟩
theorem op_floordiv (a b : Int) (hb : b ≠ 0) (hp : Builtin.divisionGoesByPylong a b = false) : Op2 prog w D n P (binaryOp .FloorDiv) rInt a rInt b rInt (a.fdiv b) := by
  rintro A s E v u hL hW hF ⟨t, rfl⟩ ⟨t', rfl⟩
  exact AutoIntOps.floordiv_1 (by simpa using hb) (by simp [hp]) ⟨keeps_tok s _, _, rfl⟩
theorem op_lt (a b : Int) : Op2 prog w D n P (compareOp .Lt) rInt a rInt b rBool (decide (a < b)) := by
  rintro A s E v u hL hW hF ⟨t, rfl⟩ ⟨t', rfl⟩
  exact PyProof.Rows.lt_int ⟨keeps_refl s, rfl⟩
theorem op_gt (a b : Int) : Op2 prog w D n P (compareOp .Gt) rInt a rInt b rBool (decide (b < a)) := by
  rintro A s E v u hL hW hF ⟨t, rfl⟩ ⟨t', rfl⟩
  exact PyProof.Rows.gt_int ⟨keeps_refl s, rfl⟩
theorem op_ge (a b : Int) : Op2 prog w D n P (compareOp .GtE) rInt a rInt b rBool (decide (b ≤ a)) := by
  rintro A s E v u hL hW hF ⟨t, rfl⟩ ⟨t', rfl⟩
  exact PyProof.Rows.ge_int ⟨keeps_refl s, rfl⟩
theorem op_eq (a b : Int) : Op2 prog w D n P (compareOp .Eq) rInt a rInt b rBool (a == b) := by
  rintro A s E v u hL hW hF ⟨t, rfl⟩ ⟨t', rfl⟩
  exact PyProof.Rows.eq_int ⟨keeps_refl s, rfl⟩
theorem op_ne (a b : Int) : Op2 prog w D n P (compareOp .NotEq) rInt a rInt b rBool (a != b) := by
  rintro A s E v u hL hW hF ⟨t, rfl⟩ ⟨t', rfl⟩
  exact PyProof.Rows.ne_int ⟨keeps_refl s, rfl⟩
theorem op_neB (a b : Bool) : Op2 prog w D n P (compareOp .NotEq) rBool a rBool b rBool (a != b) := by
  rintro A s E v u hL hW hF rfl rfl
  exact SeqAt.RcNeAt.bool_bool a b prog w E _ ⟨keeps_refl s, by cases a <;> cases b <;> rfl⟩
theorem op_eqS (a b : Str) : Op2 prog w D n P (compareOp .Eq) rStr a rStr b rBool (a == b) := by
  rintro A s E v u hL hW hF ⟨t, rfl⟩ ⟨t', rfl⟩
  refine PySem.P.eq_str ⟨keeps_refl s, ?_⟩
  have : (a == b) = (a.cps.toList == b.cps.toList) := by
    rw [Bool.eq_iff_iff, beq_iff_eq, beq_iff_eq]
    refine ⟨fun h => by rw [h], fun h => ?_⟩
    cases a; cases b; simp only at h; congr; exact Array.ext' h
  rw [this]; rfl
end
end Mine
end

section
open PySem PySem.W
set_option Elab.async false
set_option linter.unusedVariables false
set_option linter.unusedSectionVars false
namespace Mine
variable [Lim]

-- deep equality
noncomputable def leq {α β : Type} (f : α → β → Bool) : List α → List β → Bool
  | [], [] => true
  | a :: l, b :: m => f a b && leq f l m
  | _, _ => false
theorem leq_beq {α : Type} [BEq α] : ∀ (l m : List α), leq (fun a b => a == b) l m = (l == m)
  | [], [] => rfl
  | a :: l, [] => rfl
  | [], b :: m => rfl
  | a :: l, b :: m => by show ((a == b) && leq _ l m) = _; rw [leq_beq l m]; rfl

structure EqR {α β : Type} (d : Nat) (r₁ : Rel α) (r₂ : Rel β) (f : α → β → Bool) : Prop where
  at_ : ∀ (A : Around) (s : Shared) P P' v u x y, A.units + d < cLine → r₁.is P s.heap v x → r₂.is P' s.heap u y → SeqAt.EqAt A s v u (f x y)
  same : ∀ P P' h v x y, r₁.is P h v x → r₂.is P' h v y → f x y = true

theorem eqR_int : EqR 0 rInt rInt fun a b => a == b :=
  ⟨fun A s P P' v u x y _ ⟨t, e⟩ ⟨t', e'⟩ => by subst e e'; exact SeqAt.EqAt.int_int x t y t',
   fun P P' h v x y ⟨t, e⟩ ⟨t', e'⟩ => by subst e; cases e'; simp⟩
theorem eqR_bool : EqR 0 rBool rBool fun a b => a == b :=
  ⟨fun A s P P' v u x y _ e e' => by
    have e₁ : v = .bool x := e
    have e₂ : u = .bool y := e'
    subst e₁ e₂; exact SeqAt.EqAt.bool_bool x y,
   fun P P' h v x y e e' => by
    have e₁ : v = .bool x := e
    have e₂ : v = .bool y := e'
    subst e₁; cases e₂; simp⟩

noncomputable def pairE {α β : Type} (f : α → β → Bool) (l : List α) (m : List β) (j : Nat) : Bool := match l[j]?, m[j]? with
  | some a, some b => f a b
  | _, _ => false
theorem range_all_succ (n : Nat) (e : Nat → Bool) : (List.range (n + 1)).all e = (e 0 && (List.range n).all fun j => e (j + 1)) := by
  rw [List.range_succ_eq_map, List.all_cons, List.all_map]; rfl
theorem leq_pairE {α β : Type} (f : α → β → Bool) : ∀ (l : List α) (m : List β), l.length = m.length → (List.range l.length).all (pairE f l m) = leq f l m
  | [], [], _ => rfl
  | [], b :: m, h => by cases h
  | a :: l, [], h => by cases h
  | a :: l, b :: m, h => by
    have ih := leq_pairE f l m (by simpa using h)
    rw [List.length_cons, range_all_succ]
    show (f a b && (List.range l.length).all fun j => pairE f (a :: l) (b :: m) (j + 1)) = (f a b && leq f l m)
    rw [← ih]
    congr 1
theorem leq_len {α β : Type} (f : α → β → Bool) : ∀ (l : List α) (m : List β), l.length ≠ m.length → leq f l m = false
  | [], [], h => absurd rfl h
  | [], b :: m, h => rfl
  | a :: l, [], h => rfl
  | a :: l, b :: m, h => by
    show (f a b && leq f l m) = false
    rw [leq_len f l m (by simpa using h), Bool.and_false]
theorem paired_leq {α β : Type} {F : Value → α → Prop} {G : Value → β → Prop} {f : α → β → Bool} (h : ∀ v x y, F v x → G v y → f x y = true) : ∀ {vs : List Value} {l : List α} {m : List β}, Paired F vs l → Paired G vs m → leq f l m = true
  | _, _, _, .nil, .nil => rfl
  | _, _, _, .cons a t, .cons a' t' => by show (f _ _ && leq f _ _) = true; rw [h _ _ _ a a', paired_leq h t t']; rfl

section
variable {α β : Type} {d : Nat} {r₁ : Rel α} {r₂ : Rel β} {f : α → β → Bool}
theorem rc_items {A : Around} {s : Shared} {P P' : Addr → Prop} (h : EqR d r₁ r₂ f) {items items2 : Array Value} {xs : List α} {ys : List β} (hu : A.units + (d + 1) < cLine)
    (i₁ : Paired (r₁.is P s.heap) items.toList xs) (i₂ : Paired (r₂.is P' s.heap) items2.toList ys) (j : Nat) (h1 : j < items.size) (h2 : j < items2.size) :
    SeqAt.EqAt A.in1 s items[j] items2[j] (pairE f xs ys j) := by
  obtain ⟨x, hx, hr⟩ := paired_get' i₁ j items[j] (by rw [Array.getElem?_toList]; exact Array.getElem?_eq_getElem h1)
  obtain ⟨y, hy, hr'⟩ := paired_get' i₂ j items2[j] (by rw [Array.getElem?_toList]; exact Array.getElem?_eq_getElem h2)
  unfold pairE
  rw [hx, hy]
  exact h.at_ A.in1 s P P' _ _ x y (by show A.units + 1 + d < cLine; omega) hr hr'
theorem rc_lists {A : Around} {s : Shared} {P P' : Addr → Prop} (h : EqR d r₁ r₂ f) {v u : Value} {xs : List α} {ys : List β} (hu : A.units + (d + 1) < cLine)
    (hv : (rRoot r₁).is P s.heap v xs) (hw : (rRoot r₂).is P' s.heap u ys) : SeqAt.RcAt A s v u (leq f xs ys) := by
  obtain ⟨a, items, rfl, hl, i₁⟩ := hv
  obtain ⟨b, items2, rfl, hb, i₂⟩ := hw
  have n₁ : items.size = xs.length := by have := i₁.length; simpa using this
  have n₂ : items2.size = ys.length := by have := i₂.length; simpa using this
  by_cases hsz : items.size = items2.size
  · have z := SeqAt.RcAt.lists (A := A) (s := s) hl hb hsz (by omega) (rc_items h hu i₁ i₂)
    rw [n₁, leq_pairE f xs ys (by rw [← n₁, ← n₂, hsz])] at z
    exact z
  · rw [leq_len f xs ys (by rw [← n₁, ← n₂]; exact hsz)]
    exact SeqAt.RcAt.lists_lengths hl hb (by simpa using hsz) (by omega)
theorem rcne_lists {A : Around} {s : Shared} {P P' : Addr → Prop} (h : EqR d r₁ r₂ f) {v u : Value} {xs : List α} {ys : List β} (hu : A.units + (d + 1) < cLine)
    (hv : (rRoot r₁).is P s.heap v xs) (hw : (rRoot r₂).is P' s.heap u ys) : SeqAt.RcNeAt A s v u (!leq f xs ys) := by
  obtain ⟨a, items, rfl, hl, i₁⟩ := hv
  obtain ⟨b, items2, rfl, hb, i₂⟩ := hw
  have n₁ : items.size = xs.length := by have := i₁.length; simpa using this
  have n₂ : items2.size = ys.length := by have := i₂.length; simpa using this
  by_cases hsz : items.size = items2.size
  · have z := SeqAt.RcNeAt.lists (A := A) (s := s) hl hb hsz (by omega) (rc_items h hu i₁ i₂)
    rw [n₁, leq_pairE f xs ys (by rw [← n₁, ← n₂, hsz])] at z
    exact z
  · rw [leq_len f xs ys (by rw [← n₁, ← n₂]; exact hsz)]
    exact SeqAt.RcNeAt.lists_lengths hl hb (by simpa using hsz) (by omega)
theorem EqR.list (h : EqR d r₁ r₂ f) : EqR (d + 1) (rList r₁) (rList r₂) (leq f) :=
  ⟨fun A s P P' v u xs ys hu hv hw => by
    obtain ⟨a, items, rfl, hp, hl, i₁⟩ := id hv
    obtain ⟨b, items2, rfl, hp', hb, i₂⟩ := id hw
    by_cases hab : a = b
    · subst hab
      obtain ⟨o, ho, _, k, hd⟩ := hl
      obtain ⟨o', ho', _, k', hd'⟩ := hb
      rw [ho] at ho'; cases ho'
      rw [hd] at hd'; cases hd'
      rw [paired_leq (fun v x y p q => h.same _ _ _ v x y p q) i₁ i₂]
      exact SeqAt.EqAt.same _
    · exact SeqAt.EqAt.of_refs hab (rc_lists h hu (root_of hv) (root_of hw)),
   fun P P' hp v x y e e' => by
    obtain ⟨a, items, rfl, _, hl, i₁⟩ := e
    obtain ⟨b, items2, q, _, hb, i₂⟩ := e'
    cases q
    obtain ⟨o, ho, _, k, hd⟩ := hl
    obtain ⟨o', ho', _, k', hd'⟩ := hb
    rw [ho] at ho'; cases ho'
    rw [hd] at hd'; cases hd'
    exact paired_leq (fun v x y p q => h.same _ _ _ v x y p q) i₁ i₂⟩
end

section
variable {prog : Program} {w : World} {D : Wd} {n : Nat} {sc : Scope} {Γ : List Bnd} {P : Addr → Prop} {α β : Type} {d : Nat} {r₁ : Rel α} {r₂ : Rel β} {f : α → β → Bool}

theorem op_eqL (h : EqR d r₁ r₂ f) (xs : List α) (ys : List β) (hd : d ≤ 30 := by decide) : Op2 prog w D n P (compareOp .Eq) (rRoot r₁) xs (rRoot r₂) ys rBool (leq f xs ys) := by
  intro A s E v u hL hW hF hv hu
  exact rc_lists h (by have := hL.2.2; omega) hv hu prog w E _ ⟨keeps_refl s, rfl⟩
theorem op_neL (h : EqR d r₁ r₂ f) (xs : List α) (ys : List β) (hd : d ≤ 30 := by decide) : Op2 prog w D n P (compareOp .NotEq) (rRoot r₁) xs (rRoot r₂) ys rBool (!leq f xs ys) := by
  intro A s E v u hL hW hF hv hu
  exact rcne_lists h (by have := hL.2.2; omega) hv hu prog w E _ ⟨keeps_refl s, rfl⟩

/-- what a value of the list, looked at with x, gives -/
noncomputable def seen (r₁ : Rel α) (P : Addr → Prop) (h : Heap) (f : α → Bool) (v : Value) : Bool :=
  open Classical in if ∃ x, r₁.is P h v x ∧ f x = true then true else false
noncomputable def Fun (r : Rel α) : Prop := ∀ P P' h v x y, r.is P h v x → r.is P' h v y → x = y
theorem seen_of (hf : Fun r₁) {h : Heap} {g : α → Bool} {v : Value} {x : α} (e : r₁.is P h v x) : seen r₁ P h g v = g x := by
  unfold seen
  cases q : g x with
  | true => rw [if_pos ⟨x, e, q⟩]
  | false =>
    rw [if_neg]
    rintro ⟨y, hy, k⟩
    rw [hf _ _ _ _ _ _ hy e, q] at k; cases k
theorem any_seen (hf : Fun r₁) {h : Heap} {g : α → Bool} : ∀ {vs : List Value} {xs : List α}, Paired (r₁.is P h) vs xs → vs.any (seen r₁ P h g) = xs.any g
  | _, _, .nil => rfl
  | _, _, .cons a t => by rw [List.any_cons, List.any_cons, seen_of hf a, any_seen hf t]

theorem op_in (h : EqR d r₁ r₂ f) (hf : Fun r₁) (y : β) (xs : List α) (hd : d ≤ 30 := by decide) : Op2 prog w D n P (compareOp .In) r₂ y (rRoot r₁) xs rBool (xs.any fun x => f x y) := by
  rintro A s E v u hL hW hF hv ⟨a, items, rfl, hl, hi⟩
  refine SeqAt.in_listAt (seen r₁ P s.heap fun x => f x y) hl (fun q hq => ?_) ⟨keeps_refl s, ?_⟩
  · obtain ⟨j, hj, e⟩ := Array.mem_iff_getElem.mp hq
    obtain ⟨x, hx, hr⟩ := paired_get' hi j q (by rw [Array.getElem?_toList, Array.getElem?_eq_getElem hj, e])
    rw [seen_of hf hr]
    exact h.at_ A.in1 s P P _ _ x y (by have := hL.2.2; show A.units + 1 + d < cLine; omega) hr hv
  · rw [← any_seen hf hi, Array.any_toList]; rfl
theorem op_notIn (h : EqR d r₁ r₂ f) (hf : Fun r₁) (y : β) (xs : List α) (hd : d ≤ 30 := by decide) : Op2 prog w D n P (compareOp .NotIn) r₂ y (rRoot r₁) xs rBool (!xs.any fun x => f x y) := by
  rintro A s E v u hL hW hF hv ⟨a, items, rfl, hl, hi⟩
  refine SeqAt.notIn_listAt (seen r₁ P s.heap fun x => f x y) hl (fun q hq => ?_) ⟨keeps_refl s, ?_⟩
  · obtain ⟨j, hj, e⟩ := Array.mem_iff_getElem.mp hq
    obtain ⟨x, hx, hr⟩ := paired_get' hi j q (by rw [Array.getElem?_toList, Array.getElem?_eq_getElem hj, e])
    rw [seen_of hf hr]
    exact h.at_ A.in1 s P P _ _ x y (by have := hL.2.2; show A.units + 1 + d < cLine; omega) hr hv
  · rw [← any_seen hf hi, Array.any_toList]; rfl
theorem fun_int : Fun rInt := fun P P' h v x y ⟨t, e⟩ ⟨t', e'⟩ => by subst e; cases e'; rfl
theorem fun_bool : Fun rBool := fun P P' h v x y e e' => by
    have e₁ : v = .bool x := e
    have e₂ : v = .bool y := e'
    subst e₁; cases e₂; rfl
theorem Fun.list (hf : Fun r₁) : Fun (rList r₁) := fun P P' h v x y e e' => by
  obtain ⟨a, items, rfl, _, hl, i₁⟩ := e
  obtain ⟨b, items2, q, _, hb, i₂⟩ := e'
  cases q
  obtain ⟨o, ho, _, k, hd⟩ := hl
  obtain ⟨o', ho', _, k', hd'⟩ := hb
  rw [ho] at ho'; cases ho'
  rw [hd] at hd'; cases hd'
  clear hd ho
  generalize items.toList = vs at i₁ i₂
  induction i₁ generalizing y with
  | nil => cases i₂; rfl
  | cons a t ih => cases i₂ with
    | cons a' t' => rw [hf _ _ _ _ _ _ a a', ih _ t']

-- a new list
theorem new_is {s : Shared} {r : Rel α} {vs : List Value} {xs : List α} {cl : Obj} (hF : Free A P s.heap) (hc : cl = { cls := .type "list", data := .seq vs.toArray }) (hi : Paired (r.is P s.heap) vs xs) :
    Keep s.heap (s.heap.push cl) ∧ (rList r).is P (s.heap.push cl) (.ref s.heap.objs.size) xs := by
  subst hc
  have k : Keep s.heap (s.heap.push { cls := .type "list", data := .seq vs.toArray }) := .of fun b o e => Heap.get?_push_of_some _ e
  exact ⟨k, _, _, rfl, hF.new, ⟨_, Heap.get?_push_size _ rfl, rfl, _, rfl⟩, by simpa using paired_imp (fun _ _ y => r.keep k y) hi⟩

theorem op_addL (r : Rel α) (xs ys : List α) (hsz : xs.length + ys.length ≤ sizeLine) : Op2 prog w D n P (binaryOp .Add) (rRoot r) xs (rRoot r) ys (rList r) (xs ++ ys) := by
  rintro A s E v u hL hW hF ⟨a, items, rfl, hl, i₁⟩ ⟨b, items2, rfl, hb, i₂⟩
  have n₁ : items.size = xs.length := by have := i₁.length; simpa using this
  have n₂ : items2.size = ys.length := by have := i₂.length; simpa using this
  obtain ⟨⟨cls, dd, data, sl⟩, ho, hc, k, hd⟩ := id hl
  obtain ⟨⟨cls2, dd2, data2, sl2⟩, ho2, hc2, k2, hd2⟩ := id hb
  simp only at hc hd hc2 hd2
  subst hc hd hc2 hd2
  refine concat_meets ⟨_, ho, rfl⟩ ⟨_, ho2, rfl⟩ noFill_list_add seq_list_add PySem.F.slot_list_add PySem.F.entry_list_add (PySem.F.args_list_add_2 _ _)
    (PyProof.Rows.list_addW a b items items2 k k2 dd dd2 sl sl2 (by omega)) ⟨ho, ho2, ?_⟩
  have z := new_is (s := s) (r := r) (vs := items.toList ++ items2.toList) hF rfl (paired_append i₁ i₂)
  have e : (items.toList ++ items2.toList).toArray = items ++ items2 := by apply Array.ext'; simp
  rw [e] at z
  exact ⟨keeps_mk z.1, z.2⟩

theorem op_mulL (r : Rel α) (xs : List α) (k : Int) (hlo : -(2 ^ 63 : Int) ≤ k) (hhi : k < 2 ^ 63) (hsz : xs.length * k.toNat ≤ 2 ^ 24) :
    Op2 prog w D n P (binaryOp .Mult) (rRoot r) xs rInt k (rList r) (List.replicate k.toNat xs).flatten := by
  rintro A s E v u hL hW hF ⟨a, items, rfl, hl, i₁⟩ ⟨t, rfl⟩
  have n₁ : items.size = xs.length := by have := i₁.length; simpa using this
  obtain ⟨⟨cls, dd, data, sl⟩, ho, hc, kk, hd⟩ := id hl
  simp only at hc hd
  subst hc hd
  refine wpAny_binaryOp_repeat_ref (T := "list") (U := "int") (by decide) ⟨_, ho, rfl⟩ (fun s' => typeIs_int s' k t) noFill_list_mul F.fills_int_mul F.slot_int_rmul repeat_list F.slot_int_index.lookup
    (call_meets F.slot_int_rmul (typeIs_int s k t) F.entry_int_rmul (F.args_int_rmul_2 _ _) (lm_int_rmul_list_any k t a items kk dd sl)
      ⟨ho, rfl, ⟨_, ho, rfl⟩, call_meets F.slot_list_mul ⟨_, ho, rfl⟩ F.entry_list_mul (F.args_list_mul_2 _ _)
        (lm_list_mul_any a items kk dd sl k t (by simp [Builtin.List.listFitsIndex]; omega) (by rw [n₁]; omega) (by rw [n₁]; simp [Builtin.List.listTooLong, sizeLine]; omega))
        ⟨ho, ?_⟩⟩)
  have hrep : Paired (r.is P s.heap) (List.replicate k.toNat items.toList).flatten (List.replicate k.toNat xs).flatten := by
    generalize k.toNat = m
    induction m with
    | zero => exact .nil
    | succ m ih => rw [List.replicate_succ, List.flatten_cons, List.replicate_succ, List.flatten_cons]; exact paired_append i₁ ih
  have z := new_is (s := s) (r := r) (vs := (List.replicate k.toNat items.toList).flatten) hF rfl hrep
  have e : List.foldl (fun x1 x2 => x1 ++ x2) #[] (List.replicate (if items.isEmpty = true then 0 else k.toNat) items) = (List.replicate k.toNat items.toList).flatten.toArray := by
    have := PyProof.Rows.listMul_foldl_if (items := items.toList.toArray) (k := k.toNat)
    simpa using this
  rw [← e] at z
  exact ⟨keeps_mk z.1, z.2⟩
end
end Mine
end

section
open PySem PySem.W
set_option Elab.async false
set_option linter.unusedVariables false
set_option linter.unusedSectionVars false
namespace Mine
variable [Lim]
section
variable {prog : Program} {w : World} {D : Wd} {n : Nat} {sc : Scope} {Γ : List Bnd} {P : Addr → Prop} {α β : Type} {r : Rel α} {r' : Rel β}

theorem Ev.bi {x : Str} {pos : Pos} {v : Value} (hm : (x, v) ∈ builtinList) (hx : sc.names.lookup x = some .globalImplicit := by decide) (hd : (x == ("__debug__" : Str)) = false := by decide) :
    Ev prog w D n sc Γ P (.Name x pos) rVal v := Ev.built hx (D.bl _ hm).1 (D.bl _ hm).2 hd

theorem Ev.idx {xs : List α} {k : Int} {y : α} {value slice : Expr} {pos : Pos} (hv : Ev prog w D n sc Γ P value (rRoot r) xs) (hi : Ev prog w D n sc Γ P slice rInt k) (h0 : 0 ≤ k) (hk : k < 2 ^ 63)
    (hx : xs[k.toNat]? = some y) (hs : ∀ l u, subscripted slice false (.ref l) (.int k u) = operate [.ref l, .int k u] (getItem (.ref l) (.int k u)) := by intro _ _; with_unfolding_all rfl) :
    Ev prog w D n sc Γ P (.Subscript value slice pos) r y := by
  intro A env s E hL hE hW hF hV
  refine PyProof.Rows.Subscript_ (wpAny_mono (hv A env s E hL hE hW hF hV) (fun v s₁ h₁ => ?_) fun _ _ e => e)
  have k₁ := keeps_keep h₁.1
  refine wpAny_mono (hi A env s₁ E hL hE (hW.keep k₁) (hF.keep k₁) (hV.keep k₁)) (fun u s₂ h₂ => ?_) fun _ _ e => e
  have k₂ := keeps_keep h₂.1
  obtain ⟨q₂, t, rfl⟩ := h₂
  obtain ⟨a, items, rfl, hl, i₁⟩ := (rRoot r).keep k₂ h₁.2
  obtain ⟨v, hv', hr⟩ := paired_get i₁ k.toNat y hx
  refine PyProof.Rows.tail_any hl.typeIs slot_list_getitem.lookup (wpAny_getItem_list hl h0 hk (by rw [← Array.getElem?_toList]; exact hv') ⟨keeps_trans h₁.1 q₂, hr⟩) (hs a t)

theorem Ev.idxN {xs : List α} {k : Int} {y : α} {value slice : Expr} {pos : Pos} (hv : Ev prog w D n sc Γ P value (rRoot r) xs) (hi : Ev prog w D n sc Γ P slice rInt k) (h0 : k < 0) (h1 : -(xs.length : Int) ≤ k) (hk : -(2 ^ 63) ≤ k)
    (hx : xs[(k + xs.length).toNat]? = some y) (hs : ∀ l u, subscripted slice false (.ref l) (.int k u) = operate [.ref l, .int k u] (getItem (.ref l) (.int k u)) := by intro _ _; with_unfolding_all rfl) :
    Ev prog w D n sc Γ P (.Subscript value slice pos) r y := by
  intro A env s E hL hE hW hF hV
  refine PyProof.Rows.Subscript_ (wpAny_mono (hv A env s E hL hE hW hF hV) (fun v s₁ h₁ => ?_) fun _ _ e => e)
  have k₁ := keeps_keep h₁.1
  refine wpAny_mono (hi A env s₁ E hL hE (hW.keep k₁) (hF.keep k₁) (hV.keep k₁)) (fun u s₂ h₂ => ?_) fun _ _ e => e
  have k₂ := keeps_keep h₂.1
  obtain ⟨q₂, t, rfl⟩ := h₂
  obtain ⟨a, items, rfl, hl, i₁⟩ := (rRoot r).keep k₂ h₁.2
  have nl : items.size = xs.length := by have := i₁.length; simpa using this
  obtain ⟨v, hv', hr⟩ := paired_get i₁ _ y hx
  refine PyProof.Rows.tail_any hl.typeIs slot_list_getitem.lookup (wpAny_getItem_list_neg hl h0 (by rw [nl]; exact h1) hk (by rw [← Array.getElem?_toList, nl]; exact hv') ⟨keeps_trans h₁.1 q₂, hr⟩) (hs a t)

-- slices
noncomputable def pick (xs : List α) (lo hi st : Option Int) : List α :=
  (sliceRange (sliceBounds lo hi st xs.length).1 (sliceBounds lo hi st xs.length).2.1 (sliceBounds lo hi st xs.length).2.2).filterMap (xs[·]?)
theorem paired_pick {F : Value → α → Prop} {vs : List Value} {xs : List α} (h : Paired F vs xs) : ∀ (l : List Nat), Paired F (l.filterMap (vs[·]?)) (l.filterMap (xs[·]?))
  | [] => .nil
  | i :: l => by
    rw [List.filterMap_cons, List.filterMap_cons]
    cases e : vs[i]? with
    | none =>
      have : xs[i]? = none := by rw [List.getElem?_eq_none_iff] at e ⊢; rw [← h.length]; exact e
      rw [this]; exact paired_pick h l
    | some v =>
      obtain ⟨x, hx, hr⟩ := paired_get' h i v e
      rw [hx]; exact .cons hr (paired_pick h l)
/-- a bound of a slice -/
noncomputable def EvO (prog : Program) (w : World) (D : Wd) (n : Nat) (sc : Scope) (Γ : List Bnd) (P : Addr → Prop) : Option Expr → Option Int → Prop
  | none, none => True
  | some e, some i => Ev prog w D n sc Γ P e rInt i
  | _, _ => False
theorem evO {e : Option Expr} {k : Option Int} (h : EvO prog w D n sc Γ P e k) {A env s} {E : Value → Shared → Prop} (hL : Lv n A) (hE : EnvOk sc env) (hW : D.Ok s.heap) (hF : Free A P s.heap) (hV : Vars P s.heap env Γ) :
    wpAny (model prog w) A (evalPart e env) (fun v s' => Keeps s s' ∧ IsPart v k) E s := by
  cases e with
  | none => cases k with
    | none => exact wpAny_evalPart_none ⟨keeps_refl s, .none⟩
    | some i => cases h
  | some e => cases k with
    | none => cases h
    | some i => exact wpAny_evalPart_some (wpAny_mono (h A env s E hL hE hW hF hV) (fun v s' q => ⟨q.1, by obtain ⟨t, rfl⟩ := q.2; exact .int i t⟩) fun _ _ e => e)

theorem Ev.slice {xs : List α} {value : Expr} {lower upper step : Option Expr} {lo hi st : Option Int} {p pos : Pos} (hv : Ev prog w D n sc Γ P value (rRoot r) xs) (hl : EvO prog w D n sc Γ P lower lo)
    (hu : EvO prog w D n sc Γ P upper hi) (ht : EvO prog w D n sc Γ P step st) (h0 : st ≠ some 0) (hsz : xs.length ≤ sizeLine) {ops : Value → Value → List Value}
    (hs : ∀ l i, subscripted (.Slice lower upper step p) false l i = operate (ops l i) (getItem l i)) :
    Ev prog w D n sc Γ P (.Subscript value (.Slice lower upper step p) pos) (rList r) (pick xs lo hi st) := by
  intro A env s E hL hE hW hF hV
  refine PyProof.Rows.Subscript_ (wpAny_mono (hv A env s E hL hE hW hF hV) (fun v s₁ h₁ => ?_) fun _ _ e => e)
  have k₁ := keeps_keep h₁.1
  refine wpAny_Slice (wpAny_mono (evO hl hL hE (hW.keep k₁) (hF.keep k₁) (hV.keep k₁)) (fun vl s₂ h₂ => ?_) fun _ _ e => e)
  have k₂ := k₁.trans (keeps_keep h₂.1)
  refine wpAny_mono (evO hu hL hE (hW.keep k₂) (hF.keep k₂) (hV.keep k₂)) (fun vu s₃ h₃ => ?_) fun _ _ e => e
  have k₃ := k₂.trans (keeps_keep h₃.1)
  refine wpAny_mono (evO ht hL hE (hW.keep k₃) (hF.keep k₃) (hV.keep k₃)) (fun vs s₄ h₄ => ?_) fun _ _ e => e
  have q : Keeps s₁ s₄ := keeps_trans h₂.1 (keeps_trans h₃.1 h₄.1)
  obtain ⟨a, items, rfl, hl', i₁⟩ := (rRoot r).keep (keeps_keep q) h₁.2
  have nl : items.size = xs.length := by have := i₁.length; simpa using this
  have kp : Keep s₄.heap (s₄.heap.push { cls := .type "slice", data := .fields #[vl, vu, vs] }) := .of fun b o e => Heap.get?_push_of_some _ e
  refine PyProof.Rows.tail_any (s := { s₄ with heap := s₄.heap.push { cls := .type "slice", data := .fields #[vl, vu, vs] } }) (hl'.push _).typeIs slot_list_getitem.lookup
    (wpAny_getItem_list_slice (hl'.push _) ⟨_, Heap.get?_push_size _ rfl, rfl, rfl⟩ h₂.2 h₃.2 h₄.2 h0 ?_ (by rw [nl]; exact hsz)) (hs _ _)
  have hF₄ := hF.keep (k₃.trans (keeps_keep h₄.1))
  have z := new_is (s := { s₄ with heap := s₄.heap.push { cls := .type "slice", data := .fields #[vl, vu, vs] } }) (r := r) (vs := (slicePick items lo hi st).toList) (xs := pick xs lo hi st) (hF₄.keep kp) rfl (by
    unfold slicePick pick
    rw [nl]
    have := paired_pick (paired_imp (fun _ _ y => r.keep kp y) i₁) (sliceRange (sliceBounds lo hi st xs.length).1 (sliceBounds lo hi st xs.length).2.1 (sliceBounds lo hi st xs.length).2.2)
    simpa using this)
  refine ⟨keeps_trans h₁.1 (keeps_trans q ?_), z.2⟩
  exact ⟨_, _, rfl, kp.trans z.1⟩

-- many
structure Bv where
  {α : Type}
  r : Rel α
  x : α
noncomputable def EvA (prog : Program) (w : World) (D : Wd) (n : Nat) (sc : Scope) (Γ : List Bnd) (P : Addr → Prop) : List Expr → List Bv → Prop
  | [], [] => True
  | e :: es, b :: bs => Ev prog w D n sc Γ P e b.r b.x ∧ EvA prog w D n sc Γ P es bs
  | _, _ => False
inductive Are (P : Addr → Prop) (h : Heap) : List Value → List Bv → Prop
  | nil : Are P h [] []
  | cons {v : Value} {b : Bv} {vs : List Value} {bs : List Bv} : b.r.is P h v b.x → Are P h vs bs → Are P h (v :: vs) (b :: bs)
theorem Are.keep {h h' : Heap} (k : Keep h h') : ∀ {vs : List Value} {bs : List Bv}, Are P h vs bs → Are P h' vs bs
  | _, _, .nil => .nil
  | _, _, .cons (b := b) a t => .cons (b.r.keep k a) (t.keep k)
theorem Are.length {h : Heap} : ∀ {vs : List Value} {bs : List Bv}, Are P h vs bs → vs.length = bs.length
  | _, _, .nil => rfl
  | _, _, .cons a t => by rw [List.length_cons, List.length_cons, t.length]
theorem spliced_ev {A env} {E : Value → Shared → Prop} (hL : Lv n A) (hE : EnvOk sc env) : ∀ {es : List Expr} {bs : List Bv} {s : Shared}, EvA prog w D n sc Γ P es bs → D.Ok s.heap → Free A P s.heap → Vars P s.heap env Γ →
    wpAny (model prog w) A (spliced (es.map fun e => (false, eval e env))) (fun vs s' => Keeps s s' ∧ Are P s'.heap vs bs) E s
  | [], [], s, _, _, _, _ => Calls.spliced_nil ⟨keeps_refl s, .nil⟩
  | [], b :: bs, _, h, _, _, _ => h.elim
  | e :: es, [], _, h, _, _, _ => h.elim
  | e :: es, b :: bs, s, h, hW, hF, hV => by
    refine Calls.spliced_cons (wpAny_mono (h.1 A env s E hL hE hW hF hV) (fun v s₁ h₁ => ?_) fun _ _ e => e)
    have k₁ := keeps_keep h₁.1
    exact wpAny_mono (spliced_ev hL hE h.2 (hW.keep k₁) (hF.keep k₁) (hV.keep k₁)) (fun vs s₂ h₂ => ⟨keeps_trans h₁.1 h₂.1, .cons (b.r.keep (keeps_keep h₂.1) h₁.2) h₂.2⟩) fun _ _ e => e
theorem are_map {h : Heap} : ∀ {vs : List Value} {xs : List α}, Are P h vs (xs.map fun x => ⟨r, x⟩) → Paired (r.is P h) vs xs
  | _, [], .nil => .nil
  | _, x :: xs, .cons a t => .cons a (are_map t)

theorem Ev.list {elts : List Expr} {xs : List α} {pos : Pos} (h : EvA prog w D n sc Γ P elts (xs.map fun x => ⟨r, x⟩)) (hl : elts.length ≤ 100)
    (ht : ∀ env, backTo pos (starEach elts env) = elts.map fun e => (false, eval e env) := by intro _; rfl) : Ev prog w D n sc Γ P (.List elts pos) (rList r) xs := by
  intro A env s E hL hE hW hF hV
  refine wpAny_List ?_
  rw [ht]
  refine wpAny_mono (spliced_ev hL hE h hW hF hV) (fun vs s₁ h₁ => ?_) fun _ _ e => e
  have hp := are_map h₁.2
  have z := new_is (s := s₁) (r := r) (hF.keep (keeps_keep h₁.1)) rfl hp
  refine ⟨?_, keeps_trans h₁.1 (keeps_mk z.1), z.2⟩
  have h1 := h₁.2.length
  have h2 : ∀ {es : List Expr} {bs : List Bv}, EvA prog w D n sc Γ P es bs → es.length = bs.length := by
    intro es
    induction es with
    | nil => intro bs h; cases bs with
      | nil => rfl
      | cons => exact h.elim
    | cons e es ih => intro bs h; cases bs with
      | nil => exact h.elim
      | cons b bs => rw [List.length_cons, List.length_cons, ih h.2]
  rw [h1, ← h2 h, sizeLine_eq]; omega

/-- two things in a list -/
noncomputable def rTwo (r : Rel α) (r' : Rel β) : Rel (α × β) :=
  ⟨fun P h v x => ∃ a i j, v = .ref a ∧ P a ∧ h.IsList a #[i, j] ∧ r.is P h i x.1 ∧ r'.is P h j x.2, fun {P P' h h' v x} p k e => by
    obtain ⟨a, i, j, rfl, hp, hl, hi, hj⟩ := e
    obtain ⟨o, ho, _⟩ := id hl
    exact ⟨a, i, j, rfl, p a o hp ho, k.list hl, r.mono p k hi, r'.mono p k hj⟩⟩
theorem Ev.two {e₁ e₂ : Expr} {x : α} {y : β} {pos : Pos} (h₁ : Ev prog w D n sc Γ P e₁ r x) (h₂ : Ev prog w D n sc Γ P e₂ r' y)
    (ht : ∀ env, backTo pos (starEach [e₁, e₂] env) = [e₁, e₂].map fun e => (false, eval e env) := by intro _; rfl) : Ev prog w D n sc Γ P (.List [e₁, e₂] pos) (rTwo r r') (x, y) := by
  intro A env s E hL hE hW hF hV
  refine wpAny_List ?_
  rw [ht]
  refine wpAny_mono (spliced_ev (bs := [⟨r, x⟩, ⟨r', y⟩]) hL hE ⟨h₁, h₂, trivial⟩ hW hF hV) (fun vs s₁ h => ?_) fun _ _ e => e
  obtain ⟨k, a⟩ := h
  cases a with
  | @cons i _ _ _ a t =>
    cases t with
    | @cons j _ _ _ b t =>
      cases t
      have kp : Keep s₁.heap (s₁.heap.push { cls := .type "list", data := .seq (#[i, j] : Array Value) }) := .of fun b o e => Heap.get?_push_of_some _ e
      exact ⟨by rw [sizeLine_eq]; exact Nat.le_of_ble_eq_true rfl, keeps_trans k (keeps_mk kp), _, i, j, rfl, (hF.keep (keeps_keep k)).new, ⟨_, Heap.get?_push_size _ rfl, rfl, _, rfl⟩, r.keep kp a, r'.keep kp b⟩

/-- an operation on one value that is borne -/
noncomputable def Op1 {α β : Type} (prog : Program) (w : World) (D : Wd) (n : Nat) (P : Addr → Prop) (f : Value → Sem Value) (r₁ : Rel α) (x : α) (r₂ : Rel β) (y : β) : Prop :=
  ∀ A s (E : Value → Shared → Prop) v, Lv n A → D.Ok s.heap → Free A P s.heap → r₁.is P s.heap v x → wpAny (model prog w) A (f v) (fun q s' => Keeps s s' ∧ r₂.is P s'.heap q y) E s

theorem Ev.callB {id : String} {nm : Str} {e : Expr} {p pos : Pos} {x : α} {y : β} (hm : (nm, Value.builtin id) ∈ builtinList) (he : Ev prog w D n sc Γ P e r x) (ho : Op1 prog w D n P (fun v => call (.builtin id) [v]) r x r' y)
    (hx : sc.names.lookup nm = some .globalImplicit := by decide) (hd : (nm == ("__debug__" : Str)) = false := by decide) (ht : ∀ env, backTo pos (starEach [e] env) = [(false, eval e env)] := by intro _; rfl) :
    Ev prog w D n sc Γ P (.Call (.Name nm p) [e] [] pos) r' y := by
  intro A env s E hL hE hW hF hV
  refine PyProof.Rows.Call_Name (ht env) (wpAny_mono (Ev.bi (pos := p) hm hx hd A env s E hL hE hW hF hV) (fun v s₁ h₁ => ?_) fun _ _ e => e)
  obtain ⟨k, rfl⟩ := h₁
  have k₁ := keeps_keep k
  refine Calls.callWith_builtin rfl (Calls.evalArgs_plain (Calls.spliced_cons (wpAny_mono (he A env s₁ E hL hE (hW.keep k₁) (hF.keep k₁) (hV.keep k₁)) (fun u s₂ h₂ => Calls.spliced_nil ?_) fun _ _ e => e)))
  have k₂ := keeps_keep h₂.1
  exact wpAny_mono (ho A s₂ E u hL ((hW.keep k₁).keep k₂) ((hF.keep k₁).keep k₂) h₂.2) (fun q s₃ h₃ => ⟨keeps_trans k (keeps_trans h₂.1 h₃.1), h₃.2⟩) fun _ _ e => e
theorem Ev.callT {id : String} {nm : Str} {e : Expr} {p pos : Pos} {x : α} {y : β} (hm : (nm, Value.type id) ∈ builtinList) (he : Ev prog w D n sc Γ P e r x) (ho : Op1 prog w D n P (fun v => call (.type id) [v]) r x r' y)
    (hx : sc.names.lookup nm = some .globalImplicit := by decide) (hd : (nm == ("__debug__" : Str)) = false := by decide) (ht : ∀ env, backTo pos (starEach [e] env) = [(false, eval e env)] := by intro _; rfl) :
    Ev prog w D n sc Γ P (.Call (.Name nm p) [e] [] pos) r' y := by
  intro A env s E hL hE hW hF hV
  refine PyProof.Rows.Call_Name (ht env) (wpAny_mono (Ev.bi (pos := p) hm hx hd A env s E hL hE hW hF hV) (fun v s₁ h₁ => ?_) fun _ _ e => e)
  obtain ⟨k, rfl⟩ := h₁
  have k₁ := keeps_keep k
  refine PyProof.Rows.callWith_type rfl (Calls.evalArgs_plain (Calls.spliced_cons (wpAny_mono (he A env s₁ E hL hE (hW.keep k₁) (hF.keep k₁) (hV.keep k₁)) (fun u s₂ h₂ => Calls.spliced_nil ?_) fun _ _ e => e)))
  have k₂ := keeps_keep h₂.1
  exact wpAny_mono (ho A s₂ E u hL ((hW.keep k₁).keep k₂) ((hF.keep k₁).keep k₂) h₂.2) (fun q s₃ h₃ => ⟨keeps_trans k (keeps_trans h₂.1 h₃.1), h₃.2⟩) fun _ _ e => e

theorem op_len (xs : List α) (hfit : xs.length < 2 ^ 63) : Op1 prog w D n P (fun v => call (.builtin "len") [v]) (rRoot r) xs rInt (xs.length : Int) := by
  rintro A s E v hL hW hF ⟨a, items, rfl, hl, i₁⟩
  have nl : items.size = xs.length := by have := i₁.length; simpa using this
  exact Calls.call_len_list hl (by rw [nl]; omega) ⟨keeps_tok s _, _, by rw [nl]⟩
theorem Ev.len {xs : List α} {e : Expr} {p pos : Pos} (he : Ev prog w D n sc Γ P e (rRoot r) xs) (hfit : xs.length < 2 ^ 63)
    (hx : sc.names.lookup ("len" : Str) = some .globalImplicit := by decide) (ht : ∀ env, backTo pos (starEach [e] env) = [(false, eval e env)] := by intro _; rfl) :
    Ev prog w D n sc Γ P (.Call (.Name "len" p) [e] [] pos) rInt (xs.length : Int) := Ev.callB (.head _) he (op_len xs hfit) hx (by decide) ht
end
end Mine
end

section
open PySem PySem.W
set_option Elab.async false
set_option linter.unusedVariables false
set_option linter.unusedSectionVars false
namespace Mine
variable [Lim]

structure Mu where
  a : Addr
  {α : Type}
  r : Rel α
  xs : List α

/-- the block's own namespace and its own cells -/
noncomputable def Own (sc : Scope) (env : Env) (b : Addr) : Prop := b = env.locals ∨ ∃ x, sc.names.lookup x = some .cell ∧ env.cells.lookup x = some b
structure Fm (sc : Scope) (env : Env) (h : Heap) : Prop where
  ns : ∃ m, h.Ns env.locals m
  cells : ∀ x c, sc.names.lookup x = some .cell → env.cells.lookup x = some c → ∃ v, h.IsCell c v
theorem Fm.keep {sc : Scope} {env : Env} {h h' : Heap} (k : Keep h h') (f : Fm sc env h) : Fm sc env h' :=
  ⟨let ⟨m, hn⟩ := f.ns; ⟨m, k.ns hn⟩, fun x c hx hc => let ⟨v, hv⟩ := f.cells x c hx hc; ⟨v, k.cell hv⟩⟩
theorem Fm.alive {sc : Scope} {env : Env} {h : Heap} (f : Fm sc env h) {b : Addr} (o : Own sc env b) : ∃ x, h.get? b = some x := by
  rcases o with rfl | ⟨x, hx, hc⟩
  · obtain ⟨m, o, es, ep, ho, _⟩ := f.ns; exact ⟨o, ho⟩
  · obtain ⟨v, o, ho, _⟩ := f.cells x b hx hc; exact ⟨o, ho⟩
theorem Fm.ta {sc : Scope} {env : Env} {h : Heap} (f : Fm sc env h) {b : Addr} (o : Own sc env b) : ∃ x, h.get? b = some x ∧ ∀ vs, x.data ≠ .fields vs := by
  rcases o with rfl | ⟨x, hx, hc⟩
  · obtain ⟨m, o, es, ep, ho, hd, _⟩ := f.ns; exact ⟨o, ho, fun vs q => by rw [hd] at q; cases q⟩
  · obtain ⟨v, o, ho, hd⟩ := f.cells x b hx hc; exact ⟨o, ho, fun vs q => by rw [hd] at q; cases q⟩
theorem Fm.notList {sc : Scope} {env : Env} {h : Heap} (f : Fm sc env h) {b : Addr} (o : Own sc env b) {items : Array Value} : ¬ h.IsList b items := by
  rintro ⟨o', ho', _, n, hd'⟩
  rcases o with rfl | ⟨x, hx, hc⟩
  · obtain ⟨m, o, es, ep, ho, hd, _⟩ := f.ns
    rw [ho] at ho'; cases ho'; rw [hd] at hd'; cases hd'
  · obtain ⟨v, o, ho, hd⟩ := f.cells x b hx hc
    rw [ho] at ho'; cases ho'; rw [hd] at hd'; cases hd'

noncomputable def Held {α : Type} (g : Heap) (P : Addr → Prop) (h : Heap) (r : Rel α) (v : Value) (x : α) : Prop := r.is P g v x ∨ (Solid r ∧ r.is P h v x)

theorem plain_ns {h : Heap} {a : Addr} {items : Array Value} {m : Str → Option Value} (hl : h.PlainList a items) (hn : h.Ns a m) : False := by
  obtain ⟨n, ho⟩ := hl
  obtain ⟨o', es, ep, ho', hd', _⟩ := hn
  rw [ho] at ho'; cases ho'; cases hd'
theorem own_frame {sc : Scope} {env : Env} {h : Heap} (f : Fm sc env h) {b : Addr} (o : Own sc env b) {m : Str → Option Value} (hn : h.Ns b m) : env.locals = b := by
  rcases o with rfl | ⟨x, hx, hc⟩
  · rfl
  · obtain ⟨v, o, ho, hd⟩ := f.cells x b hx hc
    obtain ⟨o', es, ep, ho', hd', _⟩ := hn
    rw [ho] at ho'; cases ho'; rw [hd] at hd'; cases hd'
structure St (A : Around) (D : Wd) (g : Heap) (sc : Scope) (env : Env) (P : Addr → Prop) (Γ : List Bnd) (M : List Mu) (s : Shared) : Prop where
  ok : D.Ok g
  keep : Keep g s.heap
  fm : Fm sc env s.heap
  own : ∀ b, Own sc env b → g.get? b = none
  pown : ∀ b, Own sc env b → ¬ P b
  free : Free A P s.heap
  vars : ∀ b ∈ Γ, ∃ v, VarIs s.heap env b.name v ∧ Held g P s.heap b.r v b.x
  mus : ∀ m ∈ M, ¬ P m.a ∧ g.get? m.a = none ∧ Solid m.r ∧ ∃ items, s.heap.PlainList m.a items ∧ Paired (m.r.is P s.heap) items.toList m.xs
  dist : (M.map (·.a)).Nodup

section
variable {D : Wd} {g : Heap} {sc : Scope} {env : Env} {P : Addr → Prop} {Γ : List Bnd} {M : List Mu} {s s' : Shared}

theorem St.toVars (t : St A D g sc env P Γ M s) : Vars P s.heap env Γ := fun b hb => by
  obtain ⟨v, a, c⟩ := t.vars b hb
  exact ⟨v, a, c.elim (fun e => b.r.keep t.keep e) fun e => e.2⟩
theorem St.world (t : St A D g sc env P Γ M s) : D.Ok s.heap := t.ok.keep t.keep
theorem St.keeps (t : St A D g sc env P Γ M s) (k : Keeps s s') : St A D g sc env P Γ M s' := by
  have kk := keeps_keep k
  refine ⟨t.ok, t.keep.trans kk, t.fm.keep kk, t.own, t.pown, t.free.keep kk, fun b hb => ?_, fun m hm => ?_, t.dist⟩
  · obtain ⟨v, a, c⟩ := t.vars b hb
    exact ⟨v, a.keep kk, c.imp id fun e => ⟨e.1, b.r.keep kk e.2⟩⟩
  · obtain ⟨a, b, c, items, hl, hp⟩ := t.mus m hm
    exact ⟨a, b, c, items, kk.plain hl, paired_imp (fun _ _ y => m.r.keep kk y) hp⟩
theorem St.sub {Δ : List Bnd} (t : St A D g sc env P Γ M s) (h : ∀ b ∈ Δ, b ∈ Γ) : St A D g sc env P Δ M s :=
  ⟨t.ok, t.keep, t.fm, t.own, t.pown, t.free, fun b hb => t.vars b (h b hb), t.mus, t.dist⟩

/-- the heap changes at some addresses that `P` shuts out and that the eldest heap does not know -/
theorem St.step {Γ' : List Bnd} {M' : List Mu} {X : Addr → Prop} (t : St A D g sc env P Γ M s) {h' : Heap} {tk : Nat} (hXg : ∀ b, X b → g.get? b = none) (hXP : ∀ b o, X b → P b → Kd o → s.heap.get? b = some o → False)
    (k : ∀ b o, ¬ X b → s.heap.get? b = some o → Kept h' b o) (al : ∀ b, X b → ¬ P b → ∃ o, h'.get? b = some o ∧ ∀ vs, o.data ≠ .fields vs) (frX : ∀ L m, X L → ¬ P L → s.heap.Ns L m → ∃ m', h'.Ns L m') (fm : Fm sc env h')
    (vars : ∀ b ∈ Γ', (∃ v, VarIs h' env b.name v ∧ Held g P s.heap b.r v b.x)) (mus : ∀ m ∈ M', ¬ P m.a ∧ g.get? m.a = none ∧ Solid m.r ∧ ∃ items, h'.PlainList m.a items ∧ Paired (m.r.is P s.heap) items.toList m.xs)
    (dist : (M'.map (·.a)).Nodup) : St A D g sc env P Γ' M' { s with heap := h', toks := tk } := by
  have kp : ∀ b o, P b → Kd o → s.heap.get? b = some o → P b ∧ h'.get? b = some o := fun b o hp kd e => ⟨hp, (k b o (fun x => hXP b o x hp kd e) e).get kd.not_fra⟩
  refine ⟨t.ok, Keep.trans' (X := X) t.keep hXg k, fm, t.own, t.pown, ⟨fun b hb => ?_, t.free.fr' (fun _ => id) fun L m np hn => ?_⟩, fun b hb => ?_, fun m hm => ?_, dist⟩
  · by_cases x : X b
    · exact al b x hb
    · obtain ⟨o, ho, n⟩ := t.free.ta b hb
      obtain ⟨o', ho', d, _⟩ := (k b o x ho).obj
      exact ⟨o', ho', fun vs => d ▸ n vs⟩
  · by_cases x : X L
    · exact frX L m x np hn
    · exact ⟨m, Kept.ns hn fun o ho => k L o x ho⟩
  · obtain ⟨v, a, c⟩ := vars b hb
    exact ⟨v, a, c.imp id fun e => ⟨e.1, e.1 kp e.2⟩⟩
  · obtain ⟨a, b, c, items, hl, hp⟩ := mus m hm
    exact ⟨a, b, c, items, hl, paired_imp (fun _ _ y => c kp y) hp⟩
end

section
variable {M₀ : Model} {A : Around} {E : Value → Shared → Prop} {sc : Scope} {env : Env}
theorem store_ok {s : Shared} {x : Str} {v : Value} {Q : Unit → Shared → Prop} (hE : EnvOk sc env) (hF : Fm sc env s.heap) (hx : sc.names.lookup x = some .local ∨ sc.names.lookup x = some .cell)
    (h : ∀ h' tk, Fm sc env h' → VarIs h' env x v → (∀ y u, y ≠ x → VarIs s.heap env y u → VarIs h' env y u) → (∀ b o, ¬ Own sc env b → s.heap.get? b = some o → h'.get? b = some o) →
      (∀ b items, s.heap.PlainList b items → h'.PlainList b items) → Q () { s with heap := h', toks := tk }) :
    wpAny M₀ A (storeName env x v) Q E s := by
  obtain ⟨m₀, hm₀⟩ := hF.ns
  rcases hx with hx | hx
  · have hk := hE.loc x hx
    refine wpAny_storeName_local hk hm₀ (fun h' hn hs => ?_) (by rw [hE.kind]; rfl)
    refine h h' _ ⟨⟨_, hn⟩, fun y c hy hc => ?_⟩ (.inl ⟨hk, _, hn, by simp⟩) (fun y u hy hu => ?_) (fun b o hb e => (hs.2 b fun q => hb (.inl q)).trans e) (fun b items hl => ?_)
    · obtain ⟨w, o, ho, hd⟩ := hF.cells y c hy hc
      refine ⟨w, o, (hs.2 c fun q => ?_).trans ho, hd⟩
      obtain ⟨o', es, ep, ho', hd', _⟩ := hm₀
      rw [q, ho'] at ho; cases ho; rw [hd] at hd'; cases hd'
    · rcases hu with ⟨a, m, hm, hv⟩ | ⟨a, c, hc, o, ho, hd⟩
      · refine .inl ⟨a, _, hn, ?_⟩
        have e : m y = m₀ y := by
          obtain ⟨o₁, es₁, ep₁, ho₁, hd₁, _, q₁⟩ := hm
          obtain ⟨o₂, es₂, ep₂, ho₂, hd₂, _, q₂⟩ := hm₀
          rw [ho₁] at ho₂; cases ho₂
          rw [hd₁] at hd₂; cases hd₂
          rw [← q₁ y, q₂ y]
        simp only [if_neg hy, ← e, hv]
      · refine .inr ⟨a, c, hc, o, (hs.2 c fun q => ?_).trans ho, hd⟩
        obtain ⟨o', es, ep, ho', hd', _⟩ := hm₀
        rw [q, ho'] at ho; cases ho; rw [hd] at hd'; cases hd'
    · obtain ⟨n, ho⟩ := hl
      refine ⟨n, (hs.2 b fun q => ?_).trans ho⟩
      obtain ⟨o', es, ep, ho', hd', _⟩ := hm₀
      rw [q, ho'] at ho; cases ho; cases hd'
  · obtain ⟨hk, c, hc⟩ := hE.cel x hx
    obtain ⟨v₀, hv₀⟩ := hF.cells x c hx hc
    refine wpAny_storeName_cell hE.kind hk hc hv₀ fun h' hc' hs => ?_
    have hne : ∀ {o : Obj} {es ep}, s.heap.get? c = some o → o.data = .dict es ep → False := fun e d => by
      obtain ⟨o', ho', hd'⟩ := hv₀
      rw [e] at ho'; cases ho'; rw [d] at hd'; cases hd'
    have hns : env.locals ≠ c := fun q => by
      obtain ⟨o', es, ep, ho', hd', _⟩ := hm₀
      exact hne (q ▸ ho') hd'
    refine h h' _ ⟨⟨m₀, hm₀.sameBut hs hns⟩, fun y c' hy hcy => ?_⟩ (.inr ⟨.inl hk, c, hc, hc'⟩) (fun y u hy hu => ?_) (fun b o hb e => (hs.2 b fun q => hb (.inr ⟨x, hx, q ▸ hc⟩)).trans e) (fun b items hl => ?_)
    · by_cases q : c' = c
      · subst q; exact ⟨_, hc'⟩
      · obtain ⟨w, hw⟩ := hF.cells y c' hy hcy
        exact ⟨w, hw.sameBut hs q⟩
    · rcases hu with ⟨a, m, hm, hv⟩ | ⟨a, c', hcy, hv⟩
      · exact .inl ⟨a, m, hm.sameBut hs hns, hv⟩
      · exact .inr ⟨a, c', hcy, hv.sameBut hs fun q => hy (hE.apart y x c (q ▸ hcy) hc)⟩
    · obtain ⟨n, ho⟩ := hl
      refine ⟨n, (hs.2 b fun q => ?_).trans ho⟩
      obtain ⟨o', ho', hd'⟩ := hv₀
      rw [q, ho'] at ho; cases ho; cases hd'
end

section
variable {M₀ : Model} {A : Around} {E : Value → Shared → Prop} {D : Wd} {g : Heap} {sc : Scope} {env : Env} {P : Addr → Prop} {Γ Γ' : List Bnd} {M : List Mu} {s : Shared}

/-- a name takes a value that `P` bears -/
theorem St.store {α : Type} {x : Str} {v : Value} {r : Rel α} {y : α} (t : St A D g sc env P Γ M s) (hE : EnvOk sc env) (hx : sc.names.lookup x = some .local ∨ sc.names.lookup x = some .cell)
    (hv : Held g P s.heap r v y) (hΓ : ∀ b ∈ Γ', b = ⟨x, r, y⟩ ∨ (b ∈ Γ ∧ b.name ≠ x)) :
    wpAny M₀ A (storeName env x v) (fun _ s' => St A D g sc env P Γ' M s' ∧ (∃ h tk, s' = { s with heap := h, toks := tk }) ∧ (∀ b o, ¬ Own sc env b → s.heap.get? b = some o → Kept s'.heap b o)) E s := by
  refine store_ok hE t.fm hx fun h' tk fm hv' hvars k hl => ⟨?_, ⟨h', tk, rfl⟩, fun b o x e => .of (k b o x e)⟩
  refine t.step (X := Own sc env) t.own (fun b o x p _ _ => t.pown b x p) (fun b o x e => .of (k b o x e)) (fun b x _ => fm.ta x) (fun L m x _ hn => (own_frame t.fm x hn) ▸ fm.ns) fm (fun b hb => ?_) (fun m hm => ?_) t.dist
  · rcases hΓ b hb with rfl | ⟨hb, hne⟩
    · exact ⟨v, hv', hv⟩
    · obtain ⟨u, a, c⟩ := t.vars b hb
      exact ⟨u, hvars _ _ hne a, c⟩
  · obtain ⟨a, b, c, items, hl', hp⟩ := t.mus m hm
    exact ⟨a, b, c, items, hl _ _ hl', hp⟩

/-- a list of the block's own changes -/
theorem St.mutate {M₁ M₂ : List Mu} {m : Mu} {ys : List m.α} {items : Array Value} {h' : Heap} {tk : Nat} (t : St A D g sc env P Γ M s) (hM : M = M₁ ++ m :: M₂) (hs : Heap.SameBut m.a s.heap h') (hl : h'.PlainList m.a items)
    (hp : Paired (m.r.is P s.heap) items.toList ys) : St A D g sc env P Γ (M₁ ++ ⟨m.a, m.r, ys⟩ :: M₂) { s with heap := h', toks := tk } := by
  subst hM
  obtain ⟨np, ng, sr, items₀, hl₀, _⟩ := t.mus m (by simp)
  have hd := t.dist
  rw [List.map_append, List.map_cons, List.nodup_append, List.nodup_cons] at hd
  have hno : ∀ b, Own sc env b → b ≠ m.a := fun b o q => t.fm.notList o (q ▸ hl₀.isList)
  refine t.step (X := fun b => b = m.a) (fun b x => x ▸ ng) (fun b o x p _ _ => np (x ▸ p)) (fun b o x e => .of ((hs.2 b x).trans e)) (fun b x _ => ?_) (fun L m' x _ hn => (plain_ns (x ▸ hl₀) hn).elim) ⟨?_, fun x c hx hc => ?_⟩ (fun b hb => ?_) (fun m' hm' => ?_) ?_
  · obtain ⟨o, ho⟩ := hl; exact ⟨_, x ▸ ho, fun vs q => by cases q⟩
  · obtain ⟨m', hm'⟩ := t.fm.ns; exact ⟨m', hm'.sameBut hs (hno _ (.inl rfl))⟩
  · obtain ⟨v, hv⟩ := t.fm.cells x c hx hc; exact ⟨v, hv.sameBut hs (hno _ (.inr ⟨x, hx, hc⟩))⟩
  · obtain ⟨v, a, c⟩ := t.vars b hb
    refine ⟨v, ?_, c⟩
    rcases a with ⟨hk, m', hm', hv⟩ | ⟨hk, cc, hcc, hv⟩
    · refine .inl ⟨hk, m', hm'.sameBut hs (hno _ (.inl rfl)), hv⟩
    · refine .inr ⟨hk, cc, hcc, hv.sameBut hs fun q => ?_⟩
      obtain ⟨o, ho, hdd⟩ := hv
      obtain ⟨n, ho'⟩ := hl₀
      rw [q, ho'] at ho; cases ho; cases hdd
  · rcases List.mem_append.mp hm' with q | q
    · obtain ⟨a, b, c, items', hl', hp'⟩ := t.mus m' (List.mem_append_left _ q)
      have hne : m'.a ≠ m.a := fun e => hd.2.2 m'.a (List.mem_map_of_mem q) m.a (by simp) e
      obtain ⟨o, ho⟩ := hl'
      exact ⟨a, b, c, items', ⟨o, (hs.2 _ hne).trans ho⟩, hp'⟩
    · rcases List.mem_cons.mp q with rfl | q
      · exact ⟨np, ng, sr, items, hl, hp⟩
      · obtain ⟨a, b, c, items', hl', hp'⟩ := t.mus m' (List.mem_append_right _ (.tail _ q))
        have hne : m'.a ≠ m.a := fun e => hd.2.1.1 (e ▸ List.mem_map_of_mem q)
        obtain ⟨o, ho⟩ := hl'
        exact ⟨a, b, c, items', ⟨o, (hs.2 _ hne).trans ho⟩, hp'⟩
  · simpa [List.nodup_append, List.nodup_cons] using t.dist

/-- a new list becomes one of the block's own -/
theorem St.make {α : Type} {r : Rel α} {xs : List α} {a : Addr} {items : Array Value} {s' : Shared} (t : St A D g sc env P Γ M s) (k : Keeps s s') (sr : Solid r) (hnew : s.heap.get? a = none) (hl : s'.heap.PlainList a items)
    (hp : Paired (r.is (fun b => P b ∧ b ≠ a) s'.heap) items.toList xs) : St A D g sc env (fun b => P b ∧ b ≠ a) Γ (⟨a, r, xs⟩ :: M) s' := by
  have kk := keeps_keep k
  have al : ∀ b o, s.heap.get? b = some o → b ≠ a := fun b o e q => by rw [q, hnew] at e; cases e
  have t' := t.keeps k
  refine ⟨t'.ok, t'.keep, t'.fm, t'.own, fun b o p => t.pown b o p.1, ⟨fun b hb => ?_, t'.free.fr' (fun b z p => z p.1) fun L m _ q => ⟨m, q⟩⟩, fun b hb => ?_, fun m hm => ?_, ?_⟩
  · by_cases q : b = a
    · obtain ⟨o, ho⟩ := hl; exact ⟨_, q ▸ ho, fun vs z => by cases z⟩
    · exact t'.free.ta b fun p => hb ⟨p, q⟩
  · obtain ⟨v, vi, c⟩ := t.vars b hb
    refine ⟨v, vi.keep kk, ?_⟩
    rcases c with c | ⟨sb, c⟩
    · exact .inl (b.r.weak (fun x o p e => ⟨p, let ⟨o', e'⟩ := (t.keep x o e).alive; al x o' e'⟩) c)
    · exact .inr ⟨sb, sb (fun x o p kd e => ⟨⟨p, al x o e⟩, kk.get e kd.not_fra⟩) c⟩
  · rcases List.mem_cons.mp hm with rfl | hm
    · refine ⟨fun p => p.2 rfl, ?_, sr, items, hl, hp⟩
      cases q : g.get? a with
      | none => rfl
      | some o => obtain ⟨o', this⟩ := (t.keep a o q).alive; rw [hnew] at this; cases this
    · obtain ⟨p, q, sm, its, hl', hp'⟩ := t.mus m hm
      exact ⟨fun z => p z.1, q, sm, its, kk.plain hl', paired_imp (fun _ _ y => sm (fun x o p kd e => ⟨⟨p, al x o e⟩, kk.get e kd.not_fra⟩) y) hp'⟩
  · rw [List.map_cons, List.nodup_cons]
    refine ⟨fun q => ?_, t.dist⟩
    obtain ⟨m, hm, e⟩ := List.mem_map.mp q
    obtain ⟨_, _, _, its, ⟨o, ho⟩, _⟩ := t.mus m hm
    exact al _ _ ho e
end
end Mine
end

section
open PySem PySem.W
set_option Elab.async false
set_option linter.unusedVariables false
set_option linter.unusedSectionVars false
namespace Mine
variable [Lim]

/-- what lies behind: only the addresses in `X` may have changed -/
noncomputable def Chx (X : Addr → Prop) (s s' : Shared) : Prop := (∃ h tk, s' = { s with heap := h, toks := tk }) ∧ ∀ b o, ¬ X b → s.heap.get? b = some o → Kept s'.heap b o
theorem Chx.refl {X : Addr → Prop} (s : Shared) : Chx X s s := ⟨⟨s.heap, s.toks, rfl⟩, fun _ _ _ e => .of e⟩
theorem Chx.trans {X : Addr → Prop} {s s' s'' : Shared} (a : Chx X s s') (b : Chx X s' s'') : Chx X s s'' := by
  obtain ⟨⟨h, t, rfl⟩, k⟩ := a
  obtain ⟨⟨h', t', rfl⟩, k'⟩ := b
  exact ⟨⟨h', t', rfl⟩, fun c o x e => (k c o x e).trans fun o' e' => k' c o' x e'⟩
theorem Chx.mono {X Y : Addr → Prop} {s s' : Shared} (a : Chx X s s') (h : ∀ b, X b → Y b) : Chx Y s s' := ⟨a.1, fun b o y e => a.2 b o (fun x => y (h b x)) e⟩
theorem Chx.keeps {X : Addr → Prop} {s s' : Shared} (a : Keeps s s') : Chx X s s' := by
  obtain ⟨h, t, rfl, k⟩ := a
  exact ⟨⟨h, t, rfl⟩, fun b o _ e => k b o e⟩
/-- what was not alive ahead does not count -/
theorem Chx.fresh {X Y : Addr → Prop} {s s' : Shared} (a : Chx Y s s') (h : ∀ b o, Y b → s.heap.get? b = some o → X b) : Chx X s s' := ⟨a.1, fun b o x e => a.2 b o (fun y => x (h b o y e)) e⟩
theorem Chx.toKeeps {X : Addr → Prop} {s s' : Shared} (a : Chx X s s') (h : ∀ b o, s.heap.get? b = some o → ¬ X b) : Keeps s s' := by
  obtain ⟨⟨hh, t, rfl⟩, k⟩ := a
  exact ⟨hh, t, rfl, fun b o e => k b o (h b o e) e⟩

-- iterators
noncomputable def ItAt {α : Type} (r : Rel α) (g : Heap) (P : Addr → Prop) (h : Heap) (I : Addr) (xs : List α) : Prop :=
  (∃ ax i items, h.IsListIter I ax i ∧ (P ax ∨ ∃ o, g.get? ax = some o) ∧ h.IsList ax items ∧ Paired (Held g P h r) (items.toList.drop i) xs) ∨
  (∃ a : Int, IsRangeIter h I a xs.length 1 ∧ ∀ (j : Nat) y, xs[j]? = some y → ∀ t P' h', r.is P' h' (.int (a + (j : Int)) t) y)

section
variable {prog : Program} {w : World} {D : Wd} {g : Heap} {sc : Scope} {env : Env} {P : Addr → Prop} {Γ : List Bnd} {M : List Mu} {s s' : Shared} {α : Type} {r : Rel α} {I : Addr} {xs : List α}

theorem ItAt.obj {h : Heap} (t : ItAt r g P h I xs) : ∃ o vs, h.get? I = some o ∧ o.data = .fields vs ∧ ¬ Kd o := by
  rcases t with ⟨ax, i, items, ⟨o, ho, _, hd⟩, _⟩ | ⟨a, ho, _⟩
  · refine ⟨o, _, ho, hd, fun k => ?_⟩
    unfold Kd at k; rw [hd] at k
    obtain ⟨q, t, e⟩ := k
    have e' : (some (Value.int i 0) : Option Value) = some (.str q t) := e
    cases e'
  · refine ⟨_, _, ho, rfl, fun k => ?_⟩
    unfold Kd at k
    obtain ⟨q, t, e⟩ := k
    have e' : (some (rawInt (xs.length : Int)) : Option Value) = some (.str q t) := e
    cases e'
theorem Fm.notFields {h : Heap} (f : Fm sc env h) {b : Addr} (o : Own sc env b) {x : Obj} {vs : Array Value} (hx : h.get? b = some x) (hd : x.data = .fields vs) : False := by
  rcases o with rfl | ⟨y, hy, hc⟩
  · obtain ⟨m, o, es, ep, ho, hd', _⟩ := f.ns
    rw [ho] at hx; cases hx; rw [hd] at hd'; cases hd'
  · obtain ⟨v, o, ho, hd'⟩ := f.cells y b hy hc
    rw [ho] at hx; cases hx; rw [hd] at hd'; cases hd'

noncomputable def Mns (sc : Scope) (env : Env) (M : List Mu) (b : Addr) : Prop := Own sc env b ∨ ∃ m ∈ M, m.a = b
theorem St.notMine (t : St A D g sc env P Γ M s) {b : Addr} (h : P b ∨ ∃ o, g.get? b = some o) : ¬ Mns sc env M b := by
  rintro (o | ⟨m, hm, rfl⟩)
  · rcases h with p | ⟨x, hx⟩
    · exact t.pown b o p
    · rw [t.own b o] at hx; cases hx
  · obtain ⟨p, q, _⟩ := t.mus m hm
    rcases h with p' | ⟨x, hx⟩
    · exact p p'
    · rw [q] at hx; cases hx
theorem St.itNotMine (t : St A D g sc env P Γ M s) (it : ItAt r g P s.heap I xs) : ¬ Mns sc env M I := by
  obtain ⟨o, vs, ho, hd, _⟩ := it.obj
  rintro (oo | ⟨m, hm, rfl⟩)
  · exact t.fm.notFields oo ho hd
  · obtain ⟨_, _, _, items, ⟨n, ho'⟩, _⟩ := t.mus m hm
    rw [ho'] at ho; cases ho; cases hd
theorem Held.ch {v : Value} {x : α} {X : Addr → Prop} (h : Held g P s.heap r v x) (c : Chx X s s') (hX : ∀ b o, P b → Kd o → s.heap.get? b = some o → ¬ X b) : Held g P s'.heap r v x :=
  h.imp id fun e => ⟨e.1, e.1 (fun b o p kd q => ⟨p, (c.2 b o (hX b o p kd q) q).get kd.not_fra⟩) e.2⟩
theorem ItAt.ch {X : Addr → Prop} (it : ItAt r g P s.heap I xs) (c : Chx X s s') (hI : ¬ X I) (hX : ∀ b, (P b ∨ ∃ o, g.get? b = some o) → ¬ X b) : ItAt r g P s'.heap I xs := by
  rcases it with ⟨ax, i, items, ⟨o, ho, q⟩, pa, ⟨o', ho', q'⟩, hp⟩ | ⟨a, ho, q⟩
  · obtain ⟨o₂, ho₂, d, cc⟩ := (c.2 _ _ (hX ax pa) ho').obj
    exact .inl ⟨ax, i, items, ⟨o, (c.2 _ _ hI ho).get (not_fra fun _ _ z => by rw [q.2] at z; cases z), q⟩, pa, ⟨o₂, ho₂, cc.trans q'.1, let ⟨n, dd⟩ := q'.2; ⟨n, d.trans dd⟩⟩, paired_imp (fun _ _ y => y.ch c fun b _ p _ _ => hX b (.inl p)) hp⟩
  · exact .inr ⟨a, (c.2 _ _ hI ho).get (not_fra fun _ _ z => by cases z), q⟩
theorem ItAt.keeps (it : ItAt r g P s.heap I xs) (k : Keeps s s') : ItAt r g P s'.heap I xs := it.ch (X := fun _ => False) (Chx.keeps k) id (fun _ _ => id)

/-- the iterator's next: the head goes, only the iterator changes -/
theorem ItAt.next {A : Around} {E : Value → Shared → Prop} {Q : Option Value → Shared → Prop} (hh : A.handled = none) (it : ItAt r g P s.heap I xs) 
    (hnil : xs = [] → ∀ h', Heap.ExtBut I s.heap h' → Q none { s with heap := h' })
    (hcons : ∀ x ys, xs = x :: ys → ∀ v h' tk, Chx (fun b => b = I) s { s with heap := h', toks := tk } → Held g P h' r v x → ItAt r g P h' I ys → Q (some v) { s with heap := h', toks := tk }) :
    wpAny (model prog w) A (pyNext (.ref I)) Q E s := by
  rcases it with ⟨ax, i, items, hi, pa, hl, hp⟩ | ⟨a, hr, q⟩
  · have hax : ax ≠ I := fun e => by
      obtain ⟨o, ho, _, hd⟩ := hi
      obtain ⟨o', ho', _, n, hd'⟩ := hl
      rw [e, ho] at ho'; cases ho'; rw [hd] at hd'; cases hd'
    cases xs with
    | nil =>
      have : items[i]? = none := by
        have := hp.length
        rw [List.length_drop, Array.length_toList] at this
        exact Array.getElem?_eq_none (by simp at this; omega)
      exact wpAny_pyNext_list_end hh hi hl this fun h' he => hnil rfl h' he
    | cons x ys =>
      obtain ⟨v, hv, hx⟩ := paired_get hp 0 x rfl
      rw [List.getElem?_drop, Nat.add_zero, Array.getElem?_toList] at hv
      refine wpAny_pyNext_list_item hi hl hv fun h' hi' hs => ?_
      have c : Chx (fun b => b = I) s { s with heap := h', toks := s.toks } := ⟨⟨h', s.toks, rfl⟩, fun b o hb e => .of ((hs.2 b hb).trans e)⟩
      have hd : items.toList.drop i = v :: items.toList.drop (i + 1) := by
        have hlt : i < items.toList.length := by
          have := List.getElem?_eq_some_iff.mp (show items.toList[i]? = some v by rw [Array.getElem?_toList]; exact hv)
          exact this.1
        rw [List.drop_eq_getElem_cons hlt]
        congr 1
        have := List.getElem?_eq_some_iff.mp (show items.toList[i]? = some v by rw [Array.getElem?_toList]; exact hv)
        exact this.2
      have hp₀ := hp
      rw [hd] at hp
      have hX : ∀ b o, P b → Kd o → s.heap.get? b = some o → ¬ (b = I) := fun b o p kd q e => by
        obtain ⟨o', vs, ho', _, nk⟩ := (show ItAt r g P s.heap I (x :: ys) from .inl ⟨ax, i, items, hi, pa, hl, hp₀⟩).obj
        rw [e, ho'] at q; cases q; exact nk kd
      cases hp with
      | cons h1 h2 =>
        refine hcons x ys rfl v h' s.toks c (h1.ch c hX) (.inl ⟨ax, i + 1, items, hi', pa, hl.extBut hs.extBut hax, paired_imp (fun _ _ y => y.ch c hX) h2⟩)
  · cases xs with
    | nil => exact wpAny_pyNext_range_end hh hr (by simp) fun h' he => hnil rfl h' he
    | cons x ys =>
      refine wpAny_pyNext_range_item hr (by simp) fun h' hr' hs => ?_
      refine hcons x ys rfl _ h' _ ⟨⟨h', _, rfl⟩, fun b o hb e => .of ((hs.2 b hb).trans e)⟩ ?_ (.inr ⟨a + 1, ?_, fun j y hy t P' h'' => ?_⟩)
      · have := q 0 x rfl s.toks P g
        rw [show a + ((0 : Nat) : Int) = a by simp] at this
        exact .inl this
      · have e : ((ys.length + 1 : Nat) : Int) - 1 = ys.length := by omega
        rw [List.length_cons, e] at hr'; exact hr'
      · have := q (j + 1) y hy t P' h''
        rw [show a + ((j + 1 : Nat) : Int) = a + 1 + (j : Int) by omega] at this
        exact this
end
end Mine
end

section
open PySem PySem.W
set_option Elab.async false
set_option linter.unusedVariables false
set_option linter.unusedSectionVars false
namespace Mine
variable [Lim]

-- closures and cells of a comprehension's block
noncomputable def closOf (env : Env) : List (Str × NameKind) → List (Str × Addr) → List (Str × Addr)
  | [], acc => acc
  | (x, k) :: r, acc => if k == .free then closOf env r ((x, (env.cells.lookup x).getD 0) :: acc) else closOf env r acc
theorem closureFor_ok {env : Env} {scope : Scope} (h : ∀ x, (x, NameKind.free) ∈ scope.names → ∃ c, env.cells.lookup x = some c) : closureFor scope env = pure (closOf env scope.names []) := by
  have key : ∀ (names : List (Str × NameKind)) (acc : List (Str × Addr)), (∀ x, (x, NameKind.free) ∈ names → ∃ c, env.cells.lookup x = some c) →
      (forIn names acc fun (x : Str × NameKind) cs => (if x.2 == .free then (do let c ← cellOf env x.1; pure (.yield ((x.1, c) :: cs))) else pure (.yield cs) : Sem (ForInStep (List (Str × Addr))))) = pure (closOf env names acc) := by
    intro names
    induction names with
    | nil => intro acc _; rfl
    | cons a r ih =>
      obtain ⟨x, k⟩ := a
      intro acc h
      rw [List.forIn_cons]
      unfold closOf
      by_cases hk : (k == NameKind.free) = true
      · have hk' : k = .free := by simpa using hk
        subst hk'
        obtain ⟨c, hc⟩ := h x (List.mem_cons_self)
        simp only [hk, if_true]
        have : cellOf env x = pure c := by unfold cellOf; rw [hc]
        rw [this, hc]
        exact ih _ fun y hy => h y (List.mem_cons_of_mem _ hy)
      · simp only [hk]
        exact ih _ fun y hy => h y (List.mem_cons_of_mem _ hy)
  unfold closureFor
  have := key scope.names [] h
  first
    | exact congrArg (fun z => z >>= fun cs => pure cs) this
    | (rw [← this]; rfl)
    | skip

theorem closOf_lookup (env : Env) : ∀ (names : List (Str × NameKind)) (acc : List (Str × Addr)) (x : Str), (names.map (·.1)).Nodup →
    (((x, NameKind.free) ∈ names → (closOf env names acc).lookup x = some ((env.cells.lookup x).getD 0)) ∧ ((x, NameKind.free) ∉ names → (closOf env names acc).lookup x = acc.lookup x))
  | [], acc, x, _ => ⟨fun h => (by cases h), fun _ => rfl⟩
  | (y, k) :: r, acc, x, hn => by
    rw [List.map_cons, List.nodup_cons] at hn
    unfold closOf
    by_cases hk : (k == NameKind.free) = true
    · have hk' : k = .free := by simpa using hk
      subst hk'
      rw [if_pos hk]
      have ih := closOf_lookup env r ((y, (env.cells.lookup y).getD 0) :: acc) x hn.2
      refine ⟨fun h => ?_, fun h => ?_⟩
      · rcases List.mem_cons.mp h with e | h
        · cases e
          have : (y, NameKind.free) ∉ r := fun m => hn.1 (List.mem_map_of_mem (f := (·.1)) m)
          rw [ih.2 this, List.lookup_cons]; simp
        · exact ih.1 h
      · have hr : (x, NameKind.free) ∉ r := fun m => h (List.mem_cons_of_mem _ m)
        have hxy : (x == y) = false := by
          rw [beq_eq_false_iff_ne]; intro e; subst e; exact h List.mem_cons_self
        rw [ih.2 hr, List.lookup_cons, hxy]
    · rw [if_neg hk]
      have ih := closOf_lookup env r acc x hn.2
      refine ⟨fun h => ?_, fun h => ih.2 fun m => h (List.mem_cons_of_mem _ m)⟩
      rcases List.mem_cons.mp h with e | h
      · cases e; exact absurd rfl hk
      · exact ih.1 h

theorem cellsFrom_facts : ∀ (names : List (Str × NameKind)) (lo : Nat) (acc : List (Str × Addr)), (names.map (·.1)).Nodup →
    (∀ x, (x, NameKind.cell) ∈ names → ∃ c, lo ≤ c ∧ (cellsFrom lo names acc).lookup x = some c) ∧ (∀ x, (x, NameKind.cell) ∉ names → (cellsFrom lo names acc).lookup x = acc.lookup x) ∧
    (∀ x y c, (x, NameKind.cell) ∈ names → (y, NameKind.cell) ∈ names → (cellsFrom lo names acc).lookup x = some c → (cellsFrom lo names acc).lookup y = some c → x = y) ∧
    (∀ h : Heap, h.objs.size = lo → ∀ x c, (x, NameKind.cell) ∈ names → (cellsFrom lo names acc).lookup x = some c → (pushCells h names).IsCell c none)
  | [], lo, acc, _ => ⟨fun _ h => (by cases h), fun _ _ => rfl, fun _ _ _ h => (by cases h), fun _ _ _ _ h => (by cases h)⟩
  | (y, k) :: r, lo, acc, hn => by
    rw [List.map_cons, List.nodup_cons] at hn
    by_cases hk : (k == NameKind.cell) = true
    · have hk' : k = .cell := by simpa using hk
      subst hk'
      obtain ⟨i1, i2, i3, i4⟩ := cellsFrom_facts r (lo + 1) ((y, lo) :: acc) hn.2
      have hy : (y, NameKind.cell) ∉ r := fun m => hn.1 (List.mem_map_of_mem (f := (·.1)) m)
      have e : cellsFrom lo ((y, NameKind.cell) :: r) acc = cellsFrom (lo + 1) r ((y, lo) :: acc) := by rw [cellsFrom]; simp
      have ey : (cellsFrom lo ((y, NameKind.cell) :: r) acc).lookup y = some lo := by rw [e, i2 y hy, List.lookup_cons]; simp
      refine ⟨fun x hx => ?_, fun x hx => ?_, fun x z c hx hz q q' => ?_, fun h hs x c hx q => ?_⟩
      · rcases List.mem_cons.mp hx with ex | hx
        · cases ex; exact ⟨lo, Nat.le_refl _, ey⟩
        · obtain ⟨c, h1, h2⟩ := i1 x hx
          exact ⟨c, by omega, e ▸ h2⟩
      · have hr : (x, NameKind.cell) ∉ r := fun m => hx (List.mem_cons_of_mem _ m)
        have hxy : (x == y) = false := by rw [beq_eq_false_iff_ne]; intro q; subst q; exact hx List.mem_cons_self
        rw [e, i2 x hr, List.lookup_cons, hxy]
      · rcases List.mem_cons.mp hx with ex | hx <;> rcases List.mem_cons.mp hz with ez | hz
        · cases ex; cases ez; rfl
        · cases ex
          rw [ey] at q; cases q
          obtain ⟨c, h1, h2⟩ := i1 z hz
          rw [e, h2] at q'; cases q'; omega
        · cases ez
          rw [ey] at q'; cases q'
          obtain ⟨c, h1, h2⟩ := i1 x hx
          rw [e, h2] at q; cases q; omega
        · exact i3 x z c hx hz (e ▸ q) (e ▸ q')
      · have ep : pushCells h ((y, NameKind.cell) :: r) = pushCells (h.push { cls := .type "cell", data := .cell none }) r := by rw [pushCells]; simp
        rw [ep]
        rcases List.mem_cons.mp hx with ex | hx
        · cases ex
          rw [ey] at q; cases q
          exact ⟨_, pushCells_keeps r _ _ _ (hs ▸ Heap.get?_push_size _ rfl), rfl⟩
        · exact i4 _ (by rw [Heap.size_push, hs]) x c hx (e ▸ q)
    · have e : cellsFrom lo ((y, k) :: r) acc = cellsFrom lo r acc := by rw [cellsFrom, if_neg hk]
      have ep : ∀ h : Heap, pushCells h ((y, k) :: r) = pushCells h r := fun h => by rw [pushCells, if_neg hk]
      obtain ⟨i1, i2, i3, i4⟩ := cellsFrom_facts r lo acc hn.2
      have drop : ∀ x, (x, NameKind.cell) ∈ ((y, k) :: r) → (x, NameKind.cell) ∈ r := fun x hx => by
        rcases List.mem_cons.mp hx with ex | hx
        · cases ex; exact absurd rfl hk
        · exact hx
      refine ⟨fun x hx => e ▸ i1 x (drop x hx), fun x hx => e ▸ i2 x fun m => hx (List.mem_cons_of_mem _ m), fun x z c hx hz q q' => i3 x z c (drop x hx) (drop z hz) (e ▸ q) (e ▸ q'), fun h hs x c hx q => ?_⟩
      rw [ep]; exact i4 h hs x c (drop x hx) (e ▸ q)

theorem lookup_mem {α : Type} {l : List (Str × α)} {x : Str} {k : α} (hn : (l.map (·.1)).Nodup) (h : (x, k) ∈ l) : l.lookup x = some k := by
  induction l with
  | nil => cases h
  | cons a r ih =>
    obtain ⟨y, k'⟩ := a
    rw [List.map_cons, List.nodup_cons] at hn
    rw [List.lookup_cons]
    rcases List.mem_cons.mp h with e | h
    · cases e; simp
    · have : (x == y) = false := by
        rw [beq_eq_false_iff_ne]; intro e
        exact hn.1 (e ▸ List.mem_map_of_mem (f := (·.1)) h)
      rw [this]; exact ih hn.2 h

theorem relabel_lookup {env : Env} : ∀ (names : List (Str × NameKind)) (x : Str), (names.map fun (p : Str × NameKind) => if (p.2 == NameKind.free && env.scope.kind == .function && env.kindOf p.1 == some .cell) = true then (p.1, NameKind.cell) else (p.1, p.2)).lookup x =
    (names.lookup x).map fun k => if (k == NameKind.free && env.scope.kind == .function && env.kindOf x == some .cell) = true then .cell else k
  | [], x => rfl
  | (y, k) :: r, x => by
    rw [List.map_cons, List.lookup_cons]
    have ih := relabel_lookup (env := env) r x
    by_cases hc : (k == NameKind.free && env.scope.kind == .function && env.kindOf y == some .cell) = true
    · simp only [hc, if_true]
      rw [List.lookup_cons]
      cases hxy : x == y with
      | true =>
        have : x = y := by simpa using hxy
        subst this
        simp only [Option.map_some, hc, if_true]
      | false => exact ih
    · simp only [if_neg hc]
      rw [List.lookup_cons]
      cases hxy : x == y with
      | true =>
        have : x = y := by simpa using hxy
        subst this
        simp only [Option.map_some, if_neg hc]
      | false => exact ih

/-- a comprehension's block -/
noncomputable def compEnv (sc' : Scope) (L : Nat) (env : Env) : Env :=
  { scope := relabel sc' env, locals := L, globals := env.globals, cells := cellsFrom (L + 1) sc'.names (closOf env sc'.names []), qual := env.qual, func := none, code := env.code, frame := env.frame, builtins := env.builtins }

section
variable {M : Model} {A : Around} {E : Value → Shared → Prop} {s : Shared}
theorem new_compEnv {sc' : Scope} {env : Env} {Q : Env → Shared → Prop}
    (h : Q { compEnv sc' s.heap.objs.size env with scope := sc' } { s with heap := pushCells (s.heap.push { cls := .type "dict", data := .dict #[] }) sc'.names }) :
    wpAny M A (newFunctionEnv sc' env.globals (closOf env sc'.names []) [] env.qual none .none (some env)) Q E s := by
  simp only [newFunctionEnv, Option.isSome_some, if_true]
  refine wpAny_bind (wpAny_alloc ?_)
  refine wpAny_bind (wpAny_layCells _ (fun name kind cells => by cases hkc : kind == NameKind.cell <;> simp [hkc]) _ _ _ _ ?_)
  refine wpAny_bind ?_
  rw [List.forIn_nil]
  refine wpAny_pure (wpAny_pure ?_)
  rw [show ({ s with heap := s.heap.push { cls := .type "dict", data := .dict #[] } } : Shared).heap.objs.size = s.heap.objs.size + 1 from Heap.size_push ..]
  exact h
end

/-- the comprehension's table fits the block around -/
noncomputable def fitsB (sc sc' : Scope) : Bool := decide (sc'.kind = .function) && decide ((sc'.names.map (·.1)).Nodup) && sc'.names.all fun p => !decide (p.2 = NameKind.free) || decide (sc.names.lookup p.1 = some .cell) || decide (sc.names.lookup p.1 = some .free)
noncomputable abbrev Fits (sc sc' : Scope) : Prop := fitsB sc sc' = true
theorem Fits.kind {sc sc' : Scope} (h : Fits sc sc') : sc'.kind = .function := by
  unfold Fits fitsB at h
  simp only [Bool.and_eq_true, decide_eq_true_eq] at h
  exact h.1.1
theorem Fits.nodup {sc sc' : Scope} (h : Fits sc sc') : (sc'.names.map (·.1)).Nodup := by
  unfold Fits fitsB at h
  simp only [Bool.and_eq_true, decide_eq_true_eq] at h
  exact h.1.2
theorem Fits.free {sc sc' : Scope} (h : Fits sc sc') (x : Str) (hx : (x, NameKind.free) ∈ sc'.names) : sc.names.lookup x = some .cell ∨ sc.names.lookup x = some .free := by
  unfold Fits fitsB at h
  rw [Bool.and_eq_true] at h
  have := List.all_eq_true.mp h.2 _ hx
  simpa using this
theorem compEnv_ok {sc sc' : Scope} {env : Env} {L : Nat} (hE : EnvOk sc env) (hf : Fits sc sc') (hlt : ∀ x c, env.cells.lookup x = some c → (x, NameKind.free) ∈ sc'.names → c < L + 1) : EnvOk sc' (compEnv sc' L env) := by
  obtain ⟨c1, c2, c3, c4⟩ := cellsFrom_facts sc'.names (L + 1) (closOf env sc'.names []) hf.nodup
  have kindOf : ∀ x, (compEnv sc' L env).kindOf x = (sc'.names.lookup x).map fun k => if (k == NameKind.free && env.scope.kind == .function && env.kindOf x == some .cell) = true then .cell else k := fun x => relabel_lookup sc'.names x
  have cellsE : (compEnv sc' L env).cells = cellsFrom (L + 1) sc'.names (closOf env sc'.names []) := rfl
  have cellOf : ∀ x, (x, NameKind.free) ∈ sc'.names → ∃ c, env.cells.lookup x = some c := fun x hx => by
    rcases hf.free x hx with h | h
    · exact (hE.cel x h).2
    · exact (hE.fre x h).2
  have notCell : ∀ x, (x, NameKind.free) ∈ sc'.names → (x, NameKind.cell) ∉ sc'.names := fun x hx hc => by
    have a := lookup_mem hf.nodup hx
    have b := lookup_mem hf.nodup hc
    rw [a] at b; cases b
  have freeLook : ∀ x, (x, NameKind.free) ∈ sc'.names → (compEnv sc' L env).cells.lookup x = env.cells.lookup x := fun x hx => by
    obtain ⟨c, hc⟩ := cellOf x hx
    rw [cellsE, c2 x (notCell x hx), (closOf_lookup env sc'.names [] x hf.nodup).1 hx, hc]; rfl
  have none_else : ∀ x, (x, NameKind.free) ∉ sc'.names → (x, NameKind.cell) ∉ sc'.names → (compEnv sc' L env).cells.lookup x = none := fun x h1 h2 => by
    rw [cellsE, c2 x h2, (closOf_lookup env sc'.names [] x hf.nodup).2 h1]; rfl
  refine ⟨hf.kind, hE.glob, hE.bi, fun x hx => ?_, fun x hx => ?_, fun x hx => ?_, fun x hx => ?_, fun x y c hx hy => ?_⟩
  · rw [kindOf, hx]; rfl
  · obtain ⟨c, _, hc⟩ := c1 x (mem_of_lookup hx)
    exact ⟨by rw [kindOf, hx]; rfl, c, hc⟩
  · have hm := mem_of_lookup hx
    obtain ⟨c, hc⟩ := cellOf x hm
    refine ⟨?_, c, by rw [freeLook x hm]; exact hc⟩
    rw [kindOf, hx, Option.map_some]
    split
    · exact .inl rfl
    · exact .inr rfl
  · rw [kindOf, hx]; rfl
  · by_cases fx : (x, NameKind.free) ∈ sc'.names
    · by_cases fy : (y, NameKind.free) ∈ sc'.names
      · exact hE.apart x y c (freeLook x fx ▸ hx) (freeLook y fy ▸ hy)
      · by_cases cy : (y, NameKind.cell) ∈ sc'.names
        · obtain ⟨c', h1, h2⟩ := c1 y cy
          rw [cellsE, h2] at hy; cases hy
          exact absurd (hlt x _ (freeLook x fx ▸ hx) fx) (Nat.not_lt.mpr h1)
        · rw [none_else y fy cy] at hy; cases hy
    · by_cases cx : (x, NameKind.cell) ∈ sc'.names
      · by_cases fy : (y, NameKind.free) ∈ sc'.names
        · obtain ⟨c', h1, h2⟩ := c1 x cx
          rw [cellsE, h2] at hx; cases hx
          exact absurd (hlt y _ (freeLook y fy ▸ hy) fy) (Nat.not_lt.mpr h1)
        · by_cases cy : (y, NameKind.cell) ∈ sc'.names
          · exact c3 x y c cx cy hx hy
          · rw [none_else y fy cy] at hy; cases hy
      · rw [none_else x fx cx] at hx; cases hx
end Mine
end

section
open PySem PySem.W
set_option Elab.async false
set_option linter.unusedVariables false
set_option linter.unusedSectionVars false
namespace Mine
variable [Lim]

noncomputable def turnOf (target : Expr) (ip : Pos) (ifs : List Expr) (emit : Sem Unit) (e : Expr) (d : Nat) (it acc : Value) (env : Env) : Sem Fin := do
  standAt ip
  match ← pyNext it with
  | none => pure (.done .next)
  | some v =>
    letOwnedTupleGo target it v
    assign target env v
    let mut ok := true
    for c in ifs do
      if ok then ok ← isTrue c env (eval c env)
    if ok then emit
    again (.compLoop e d it acc env)
noncomputable def emitAppend (elt : Expr) (acc : Value) (env : Env) : Sem Unit := do let _ ← call (.builtin "list.append") [acc, ← eval elt env]
noncomputable def emitInner (e : Expr) (d : Nat) (i2 : Expr) (acc : Value) (env : Env) : Sem Unit := do
  let x ← eval i2 env
  standAt i2.pos
  let x ← foldedSetIterable i2 env x
  let _ ← runOwn (.compStart e d (← holding [x] (pyIter x)) acc env) env
theorem turn1 (elt target iter : Expr) (ifs : List Expr) (scope : Scope) (pos : Pos) (it acc : Value) (env : Env) :
    compTurn (.ListComp elt [⟨target, iter, ifs, 0⟩] scope pos) 0 it acc env = turnOf target iter.pos ifs (emitAppend elt acc env) (.ListComp elt [⟨target, iter, ifs, 0⟩] scope pos) 0 it acc env := by rfl
theorem turn20 (elt t1 i1 t2 i2 : Expr) (f1 f2 : List Expr) (scope : Scope) (pos : Pos) (it acc : Value) (env : Env) :
    compTurn (.ListComp elt [⟨t1, i1, f1, 0⟩, ⟨t2, i2, f2, 0⟩] scope pos) 0 it acc env =
      turnOf t1 i1.pos f1 (emitInner (.ListComp elt [⟨t1, i1, f1, 0⟩, ⟨t2, i2, f2, 0⟩] scope pos) 1 i2 acc env) (.ListComp elt [⟨t1, i1, f1, 0⟩, ⟨t2, i2, f2, 0⟩] scope pos) 0 it acc env := by
  unfold turnOf emitInner
  simp only [bind_assoc, pure_bind]
  rfl
theorem turn21 (elt t1 i1 t2 i2 : Expr) (f1 f2 : List Expr) (scope : Scope) (pos : Pos) (it acc : Value) (env : Env) :
    compTurn (.ListComp elt [⟨t1, i1, f1, 0⟩, ⟨t2, i2, f2, 0⟩] scope pos) 1 it acc env =
      turnOf t2 i2.pos f2 (emitAppend elt acc env) (.ListComp elt [⟨t1, i1, f1, 0⟩, ⟨t2, i2, f2, 0⟩] scope pos) 1 it acc env := by rfl

section
variable {prog : Program} {w : World} {D : Wd} {g : Heap} {sc : Scope} {env : Env} {P : Addr → Prop} {Γ : List Bnd} {n : Nat} {A : Around} {α β : Type} {r : Rel α} {r' : Rel β} {acc : Addr}

noncomputable abbrev CSt (A : Around) (D : Wd) (g : Heap) (sc : Scope) (env : Env) (P : Addr → Prop) (Γ : List Bnd) (acc : Addr) (r' : Rel β) (zs : List β) (s : Shared) : Prop := St A D g sc env P Γ [⟨acc, r', zs⟩] s
/-- the own addresses and the list that grows -/
noncomputable def XC (sc : Scope) (env : Env) (acc : Addr) (b : Addr) : Prop := Own sc env b ∨ b = acc

/-- the tests of a clause -/
noncomputable def Tests (prog : Program) (w : World) (D : Wd) (n : Nat) (sc : Scope) (Γ : List Bnd) (P : Addr → Prop) (ifs : List Expr) (b : Bool) : Prop :=
  (ifs = [] ∧ b = true) ∨ ∃ c, ifs = [c] ∧ Et prog w D n sc Γ P c b
theorem tests_ok {ifs : List Expr} {b : Bool} {s : Shared} {E : Value → Shared → Prop} (h : Tests prog w D n sc Γ P ifs b) (hL : Lv n A) (hE : EnvOk sc env) (hW : D.Ok s.heap) (hF : Free A P s.heap) (hV : Vars P s.heap env Γ) :
    wpAny (model prog w) A (forIn ifs true fun c r => if r = true then do let ok ← isTrue c env (eval c env); pure (ForInStep.yield ok) else pure (ForInStep.yield r)) (fun ok s' => Keeps s s' ∧ ok = b) E s := by
  rcases h with ⟨rfl, rfl⟩ | ⟨c, rfl, h⟩
  · exact wpAny_tests_nil ⟨keeps_refl s, rfl⟩
  · exact wpAny_tests_one (h A env s E hL hE hW hF hV)

theorem append_ok {s : Shared} {zs : List β} {elt : Expr} {y : β} {E : Value → Shared → Prop} (t : CSt A D g sc env P Γ acc r' zs s) (hL : Lv n A) (hE : EnvOk sc env) (he : Ev prog w D n sc Γ P elt r' y) (hsz : zs.length ≤ sizeLine) :
    wpAny (model prog w) A (emitAppend elt (.ref acc) env) (fun _ s' => CSt A D g sc env P Γ acc r' (zs ++ [y]) s' ∧ Chx (XC sc env acc) s s') E s := by
  unfold emitAppend
  refine wpAny_bind (wpAny_mono (he A env s E hL hE t.world t.free t.toVars) (fun v s₁ h₁ => ?_) fun _ _ e => e)
  have t₁ := t.keeps h₁.1
  obtain ⟨_, _, sr, items, hl, hp⟩ := t₁.mus ⟨acc, r', zs⟩ (.head _)
  have nl : items.size = zs.length := by have := hp.length; simpa using this
  refine wpAny_bind (wpAny_list_append_plain hl (fun h' hl' hs => wpAny_pure ⟨?_, ?_⟩) (by rw [nl]; exact hsz))
  · exact t₁.mutate (M₁ := []) (M₂ := []) (m := ⟨acc, r', zs⟩) rfl hs hl' (by simpa using paired_append hp (.cons h₁.2 .nil))
  · exact (Chx.keeps h₁.1).trans ⟨⟨h', s₁.toks, rfl⟩, fun b o x e => .of ((hs.2 b fun q => x (.inr q)).trans e)⟩

theorem letgo_ok {I : Addr} {xs : List α} {s : Shared} {E : Value → Shared → Prop} {Q : Unit → Shared → Prop} {target : Expr} {v : Value} (it : ItAt r g P s.heap I xs) (h : Q () s) :
    wpAny (model prog w) A (letOwnedTupleGo target (.ref I) v) Q E s := by
  rcases it with ⟨ax, i, items, hi, _⟩ | ⟨a, hr, _⟩
  · exact PyProof.Rows.letGo_listiter hi h
  · unfold letOwnedTupleGo
    cases target <;> first
      | exact wpAny_pure h
      | (cases v <;> first
          | exact wpAny_pure h
          | (refine wpAny_bind (wpAny_load hr ?_)
             dsimp only
             rw [if_neg (by simp)]
             exact wpAny_pure h))

theorem comp_loop {e target : Expr} {ip : Pos} {ifs : List Expr} {emit : Sem Unit} {d : Nat} {I : Addr} (hq : (Code.compLoop e d (.ref I) (.ref acc) env).quiet = true) (hden : ∀ it, (model prog w).den (.compLoop e d it (.ref acc) env) =
      (compTurn e d it (.ref acc) env).onRaise (fun x => do noteFrame x env; theTreesLotGoes x))
    (hw : ∀ it, A.under (.compLoop e d it (.ref acc) env) = A)
    (hturn : ∀ it, compTurn e d it (.ref acc) env = turnOf target ip ifs emit e d it (.ref acc) env) 
    (hL : Lv n A) (hE : EnvOk sc env) (Δ : α → List Bnd) (p : α → Bool) (G : α → List β) (hgI : g.get? I = none) (hPI : P I)
    (hassign : ∀ x v s zs (E : Value → Shared → Prop), CSt A D g sc env P Γ acc r' zs s → Held g P s.heap r v x →
      wpAny (model prog w) A (assign target env v) (fun _ s' => CSt A D g sc env P (Δ x ++ Γ) acc r' zs s' ∧ Chx (XC sc env acc) s s') E s)
    (final : List β) (hsz : final.length ≤ sizeLine)
    (xs : List α) (htest : ∀ x ∈ xs, Tests prog w D n sc (Δ x ++ Γ) P ifs (p x))
    (hemit : ∀ x s zs (E : Value → Shared → Prop), x ∈ xs → p x = true → CSt A D g sc env P (Δ x ++ Γ) acc r' zs s → (zs ++ G x).length ≤ sizeLine →
      wpAny (model prog w) A emit (fun _ s' => CSt A D g sc env P (Δ x ++ Γ) acc r' (zs ++ G x) s' ∧ Chx (XC sc env acc) s s') E s)
    {s : Shared} {zs : List β} (hfin : zs ++ (xs.flatMap fun x => if p x then G x else []) = final)
    (t : CSt A D g sc env P Γ acc r' zs s) (it : ItAt r g P s.heap I xs) :
    codeAny (model prog w) A (.compLoop e d (.ref I) (.ref acc) env) (fun q s' => q = .ok .next ∧ CSt A D g sc env P Γ acc r' final s' ∧ Chx (fun b => XC sc env acc b ∨ b = I) s s') s := by
  refine codeAny_loop hq (fun k s' => ∃ ys zs', k = ys.length ∧ (∀ x ∈ ys, x ∈ xs) ∧ zs' ++ (ys.flatMap fun x => if p x then G x else []) = final ∧ CSt A D g sc env P Γ acc r' zs' s' ∧ ItAt r g P s'.heap I ys ∧
      Chx (fun b => XC sc env acc b ∨ b = I) s s') ?_ xs.length ⟨xs, zs, rfl, fun _ h => h, hfin, t, it, Chx.refl s⟩
  rintro k s₁ ⟨ys, zs', rfl, hsub, hf, t₁, it₁, c₁⟩
  rw [hw, hden]
  refine wpAny_noted ?_
  rw [hturn]
  unfold turnOf
  refine wpAny_bind (wpAny_standAt (wpAny_bind ?_))
  have hXI : ∀ b, (P b ∨ ∃ o, g.get? b = some o) → ¬ XC sc env acc b := fun b h x => by
    have := t₁.notMine h
    rcases x with x | x
    · exact this (.inl x)
    · exact this (.inr ⟨_, .head _, x.symm⟩)
  have hIX : ¬ XC sc env acc I := fun x => by
    have := t₁.itNotMine it₁
    rcases x with x | x
    · exact this (.inl x)
    · exact this (.inr ⟨_, .head _, x.symm⟩)
  have stepI : ∀ {h' tk}, Chx (fun b => b = I) s₁ { s₁ with heap := h', toks := tk } → CSt A D g sc env P Γ acc r' zs' { s₁ with heap := h', toks := tk }   := fun {h' tk} c => by
    have ne : ∀ b, b ≠ I → ∀ o, s₁.heap.get? b = some o → Kept h' b o := fun b hb o e => c.2 b o hb e
    obtain ⟨m₀, hm₀⟩ := t₁.fm.ns
    have own_ne : ∀ b, Own sc env b → b ≠ I := fun b o q => hIX (.inl (q ▸ o))
    refine t₁.step (X := fun b => b = I) (fun b x => x ▸ hgI) (fun b o x p kd e => ?_) (fun b o x e => ne b x o e) (fun b x np => absurd (x ▸ hPI) np) (fun L m' x np _ => absurd (x ▸ hPI) np) ⟨⟨m₀, Kept.ns hm₀ fun o e => ne _ (own_ne _ (.inl rfl)) o e⟩, fun x c hx hc => ?_⟩ (fun b hb => ?_) (fun m hm => ?_) t₁.dist
    · obtain ⟨o', vs, ho', hd', nk⟩ := it₁.obj
      rw [x, ho'] at e; cases e; exact nk kd
    · obtain ⟨v, hv⟩ := t₁.fm.cells x c hx hc
      exact ⟨v, Kept.cell hv fun o ho => ne c (own_ne c (.inr ⟨x, hx, hc⟩)) o ho⟩
    · obtain ⟨v, a, q⟩ := t₁.vars b hb
      refine ⟨v, ?_, q⟩
      rcases a with ⟨hk, m, hm, hv⟩ | ⟨hk, cc, hcc, o, ho, hd⟩
      · exact .inl ⟨hk, m, Kept.ns hm fun o e => ne _ (own_ne _ (.inl rfl)) o e, hv⟩
      · refine .inr ⟨hk, cc, hcc, Kept.cell ⟨o, ho, hd⟩ fun o₂ ho₂ => ne cc (fun q => ?_) o₂ ho₂⟩
        obtain ⟨o', vs, ho', hd', _⟩ := it₁.obj
        rw [q, ho'] at ho; cases ho; rw [hd'] at hd; cases hd
    · obtain ⟨a, b, cc, items, ⟨o, ho⟩, hp⟩ := t₁.mus m hm
      refine ⟨a, b, cc, items, Kept.plain ⟨o, ho⟩ fun o₂ ho₂ => ne _ (fun q => ?_) _ ho₂, hp⟩
      obtain ⟨o', vs, ho', hd', _⟩ := it₁.obj
      rw [q, ho'] at ho; cases ho; cases hd'
  refine ItAt.next (r := r) (g := g) (P := P) hL.1 it₁ (fun hnil h' he => ?_) fun x ys' hys v h' tk c hv it₂ => ?_
  · subst hnil
    refine wpAny_pure ⟨rfl, ?_, ?_⟩
    · rw [List.flatMap_nil, List.append_nil] at hf
      subst hf
      exact stepI (tk := s₁.toks) ⟨⟨h', s₁.toks, rfl⟩, fun b o hb e => .of (he b o hb e)⟩
    · exact c₁.trans ⟨⟨h', s₁.toks, rfl⟩, fun b o hb e => .of (he b o (fun q => hb (.inr q)) e)⟩
  · subst hys
    have t₂ := stepI c
    refine wpAny_bind (letgo_ok it₂ (wpAny_bind (wpAny_mono (hassign x v _ zs' _ t₂ hv) (fun _ s₃ h₃ => ?_) fun _ _ e => e)))
    obtain ⟨t₃, c₃⟩ := h₃
    have it₃ : ItAt r g P s₃.heap I ys' := it₂.ch c₃ hIX hXI
    refine wpAny_bind (wpAny_mono (tests_ok (htest x (hsub x List.mem_cons_self)) hL hE t₃.world t₃.free t₃.toVars) (fun ok s₄ h₄ => ?_) fun _ _ e => e)
    obtain ⟨k₄, rfl⟩ := h₄
    have t₄ := t₃.keeps k₄
    have it₄ := it₃.keeps k₄
    have c₄ : Chx (fun b => XC sc env acc b ∨ b = I) s s₄ := c₁.trans ((c.mono fun b h => .inr h).trans ((c₃.mono fun b h => .inl h).trans (Chx.keeps k₄)))
    rw [List.flatMap_cons] at hf
    cases hp : p x with
    | false =>
      simp only [Bool.false_eq_true, if_false]
      rw [hp] at hf
      exact wpAny_pure ⟨rfl, ys'.length, Nat.lt_succ_self _, ys', zs', rfl, fun y hy => hsub y (List.mem_cons_of_mem _ hy), by simpa using hf, t₄.sub fun b hb => List.mem_append_right _ hb, it₄, c₄⟩
    | true =>
      simp only [if_true]
      rw [hp] at hf
      simp only [if_true] at hf
      rw [← List.append_assoc] at hf
      refine wpAny_bind (wpAny_mono (hemit x s₄ zs' _ (hsub x List.mem_cons_self) hp t₄ (by rw [← hf, List.length_append] at hsz; omega)) (fun _ s₅ h₅ => ?_) fun _ _ e => e)
      obtain ⟨t₅, c₅⟩ := h₅
      exact wpAny_pure ⟨rfl, ys'.length, Nat.lt_succ_self _, ys', _, rfl, fun y hy => hsub y (List.mem_cons_of_mem _ hy), hf, t₅.sub fun b hb => List.mem_append_right _ hb, it₄.ch c₅ hIX hXI, c₄.trans (c₅.mono fun b h => .inl h)⟩
end
end Mine
end

section
open PySem PySem.W
set_option Elab.async false
set_option linter.unusedVariables false
set_option linter.unusedSectionVars false
namespace Mine
variable [Lim]

/-- a list, or a range of ints by ones -/
noncomputable def rSeq {α : Type} (r : Rel α) : Rel (List α) :=
  ⟨fun P h v xs => (rRoot r).is P h v xs ∨ ∃ ra a b t u v', v = .ref ra ∧ IsRange h ra a b 1 t u v' ∧ Builtin.Range.small a b 1 = true ∧ Builtin.Range.rangeSize a b 1 = (xs.length : Int) ∧
      ∀ (j : Nat) y, xs[j]? = some y → ∀ t P' h', r.is P' h' (.int (a + (j : Int)) t) y,
   fun {P P' h h' v x} p k e => e.imp (fun e => (rRoot r).mono p k e) fun ⟨ra, a, b, t, u, v', e1, e2, e3⟩ => ⟨ra, a, b, t, u, v', e1, k.get e2 (not_fra fun _ _ z => by cases z), e3⟩⟩

section
variable {prog : Program} {w : World} {D : Wd} {g : Heap} {sc : Scope} {env : Env} {P : Addr → Prop} {Γ : List Bnd} {n : Nat} {A : Around} {α β : Type} {r : Rel α} {r' : Rel β} {acc : Addr} {s : Shared} {E : Value → Shared → Prop}

theorem Ev.seq {e : Expr} {xs : List α} (h : Ev prog w D n sc Γ P e (rRoot r) xs) : Ev prog w D n sc Γ P e (rSeq r) xs :=
  fun A env s E hL hE hW hF hV => wpAny_mono (h A env s E hL hE hW hF hV) (fun v s' k => ⟨k.1, .inl k.2⟩) fun _ _ e => e
theorem Ev.seqL {e : Expr} {xs : List α} (h : Ev prog w D n sc Γ P e (rList r) xs) : Ev prog w D n sc Γ P e (rSeq r) xs := Ev.seq (Ev.root h)

noncomputable def rng (a : Int) (k : Nat) : List Int := (List.range k).map fun (j : Nat) => a + (j : Int)
theorem rng_get (a : Int) (k j : Nat) (y : Int) (h : (rng a k)[j]? = some y) : y = a + (j : Int) := by
  unfold rng at h
  rw [List.getElem?_map] at h
  cases q : (List.range k)[j]? with
  | none => rw [q] at h; cases h
  | some z =>
    rw [q] at h
    obtain ⟨hj, hz⟩ := List.getElem?_eq_some_iff.mp q
    rw [List.getElem_range] at hz
    subst hz; cases h; rfl
theorem small_of {a b : Int} (ha : -(2 ^ 31) ≤ a) (hb : b ≤ 2 ^ 31) (ha' : a ≤ 2 ^ 31) (hb' : -(2 ^ 31) ≤ b) : Builtin.Range.small a b 1 = true := small_one (by omega) (by omega) (by omega) (by omega)
/-- the iterator of what lies in the eldest heap -/
theorem iter_ghost {v : Value} {xs : List α} {Q : Value → Shared → Prop} (h : (rSeq r).is P s.heap v xs)
    (hQ : ∀ I s', Keeps s s' → I = s.heap.objs.size → s'.heap.objs.size = I + 1 → (∀ Pin : Addr → Prop, (∀ b o, P b → s.heap.get? b = some o → Pin b) → ItAt r s.heap Pin s'.heap I xs) → Q (.ref I) s') : wpAny (model prog w) A (pyIter v) Q E s := by
  rcases h with ⟨a, items, rfl, hl, hp⟩ | ⟨ra, a, b, t, u, v', rfl, hr, hs, hn, he⟩
  · have k : Keep s.heap (s.heap.push { cls := .type "list_iterator", data := .fields #[.ref a, .int 0 0] }) := .of fun b o e => Heap.get?_push_of_some _ e
    refine wpAny_pyIter_list hl (hQ _ _ ⟨_, s.toks, rfl, k⟩ rfl (Heap.size_push ..) fun Pin hpin => .inl ⟨a, 0, items, ⟨_, Heap.get?_push_size _ rfl, rfl, rfl⟩, .inr ?_, hl.push _, paired_imp (fun _ _ y => .inl (r.weak hpin y)) (by simpa using hp)⟩)
    obtain ⟨o, ho, _⟩ := hl; exact ⟨o, ho⟩
  · have k : Keep s.heap (s.heap.push { cls := .type "range_iterator", data := .fields #[rawInt a, rawInt (Builtin.Range.rangeSize a b 1), rawInt 1] }) := .of fun b o e => Heap.get?_push_of_some _ e
    refine wpAny_pyIter_range hr hs (hQ _ _ ⟨_, s.toks, rfl, k⟩ rfl (Heap.size_push ..) fun Pin _ => .inr ⟨a, ?_, he⟩)
    rw [hn]; exact Heap.get?_push_size _ rfl
/-- the iterator of a list that `P` bears -/
theorem iter_solid {g : Heap} {v : Value} {xs : List α} {Q : Value → Shared → Prop} (sr : Solid r) (h : (rList r).is P s.heap v xs)
    (hQ : ∀ I s', Keeps s s' → I = s.heap.objs.size → ItAt r g P s'.heap I xs → Q (.ref I) s') : wpAny (model prog w) A (pyIter v) Q E s := by
  obtain ⟨a, items, rfl, hpa, hl, hp⟩ := h
  have k : Keep s.heap (s.heap.push { cls := .type "list_iterator", data := .fields #[.ref a, .int 0 0] }) := .of fun b o e => Heap.get?_push_of_some _ e
  exact wpAny_pyIter_list hl (hQ _ _ ⟨_, s.toks, rfl, k⟩ rfl (.inl ⟨a, 0, items, ⟨_, Heap.get?_push_size _ rfl, rfl, rfl⟩, .inl hpa, hl.push _, paired_imp (fun _ _ y => .inr ⟨sr, r.keep k y⟩) (by simpa using hp)⟩))
theorem iter_range {g : Heap} {v : Value} {xs : List α} {Q : Value → Shared → Prop} {ra : Addr} {a b : Int} {t u : Tok} {v' : Tok} (hv : v = .ref ra) (hr : IsRange s.heap ra a b 1 t u v') (hs : Builtin.Range.small a b 1 = true) (hn : Builtin.Range.rangeSize a b 1 = (xs.length : Int))
    (he : ∀ (j : Nat) y, xs[j]? = some y → ∀ t P' h', r.is P' h' (.int (a + (j : Int)) t) y)
    (hQ : ∀ I s', Keeps s s' → I = s.heap.objs.size → ItAt r g P s'.heap I xs → Q (.ref I) s') : wpAny (model prog w) A (pyIter v) Q E s := by
  subst hv
  have k : Keep s.heap (s.heap.push { cls := .type "range_iterator", data := .fields #[rawInt a, rawInt (Builtin.Range.rangeSize a b 1), rawInt 1] }) := .of fun b o e => Heap.get?_push_of_some _ e
  refine wpAny_pyIter_range hr hs (hQ _ _ ⟨_, s.toks, rfl, k⟩ rfl (.inr ⟨a, ?_, he⟩))
  rw [hn]; exact Heap.get?_push_size _ rfl

theorem it_self {g : Heap} {I : Addr} {xs : List α} {Q : Value → Shared → Prop} (it : ItAt r g P s.heap I xs) (h : Q (.ref I) s) : wpAny (model prog w) A (pyIter (.ref I)) Q E s := by
  rcases it with ⟨ax, i, items, hi, _⟩ | ⟨a, hr, _⟩
  · exact wpAny_pyIter_listiter hi h
  · exact wpAny_pyIter_rangeiter hr h

theorem start_ok {e : Expr} {d : Nat} {I : Addr} {g : Heap} {xs : List α} {R : Result → Shared → Prop} {c : Comprehension} (hden : (model prog w).den (.compStart e d (.ref I) (.ref acc) env) = (compStart e d (.ref I) (.ref acc) env).onRaise (fun x => do noteFrame x env; standAt theWindowsPlace))
    (hq : ∀ it, (Code.compLoop e d it (.ref acc) env).quiet = true) (hc : (clausesOf e)[d]? = some c) (hsync : c.is_async = 0) (hw : A.under (.compStart e d (.ref I) (.ref acc) env) = A) (it : ItAt r g P s.heap I xs)
    (h : codeAny (model prog w) A (.compLoop e d (.ref I) (.ref acc) env) R s) : codeAny (model prog w) A (.compStart e d (.ref I) (.ref acc) env) R s := by
  refine codeAny_of_tree ?_
  rw [hw, hden]
  refine wpAny_notedAt ?_
  unfold compStart
  rw [hc]
  simp only [Option.elim, hsync, bne_self_eq_false, Bool.false_eq_true, if_false]
  refine wpAny_bind (wpAny_askSetting (wpAny_ite ?_))
  split
  · exact wpAny_bind (wpAny_pure (wpAny_pure ⟨hq _, h⟩))
  · exact wpAny_bind (wpAny_rule (wpAny_bind (wpAny_standAt (wpAny_bind (it_self it (wpAny_pure ⟨hq _, h⟩))))))
end
end Mine
end

section
open PySem PySem.W
set_option Elab.async false
set_option linter.unusedVariables false
set_option linter.unusedSectionVars false
namespace Mine
variable [Lim]
section
variable {prog : Program} {w : World} {D : Wd} {sc sc' : Scope} {env : Env} {P : Addr → Prop} {Γ Γc : List Bnd} {n : Nat} {A : Around} {α β γ : Type} {r : Rel α} {r' : Rel β} {r₂ : Rel γ} {s : Shared} {E : Value → Shared → Prop}

/-- a new list stands at `acc`; all that was stands as it stood -/
noncomputable def Done (P : Addr → Prop) (s : Shared) (acc : Addr) (r' : Rel β) (ys : List β) (s' : Shared) : Prop :=
  Keeps s s' ∧ s.heap.get? acc = none ∧ P acc ∧ ∃ items, s'.heap.PlainList acc items ∧ Paired (r'.is (fun b => P b ∧ b ≠ acc) s'.heap) items.toList ys
theorem Done.list {acc : Addr} {ys : List β} {s' : Shared} (h : Done P s acc r' ys s') : (rList r').is P s'.heap (.ref acc) ys := by
  obtain ⟨_, _, pa, items, hl, hp⟩ := h
  exact ⟨acc, items, rfl, pa, hl.isList, paired_imp (fun _ _ y => r'.weak (fun b _ p _ => p.1) y) hp⟩

/-- the comprehension's frame: what is caught from the block around, seen from within -/
structure Caught (Γ : List Bnd) (sc' : Scope) (Γc : List Bnd) : Prop where
  sub : ∀ b ∈ Γc, b ∈ Γ ∧ sc'.names.lookup b.name = some .free
  all : ∀ p ∈ sc'.names, p.2 = NameKind.free → p.1 ∈ Γ.map (·.name)

theorem comp_core {e iter : Expr} {c : Comprehension} {cs : List Comprehension} {pos : Pos} {xs : List α} {ys : List β} {use : Option (Value → Sem Unit)} {Q : Value → Shared → Prop}
    (hcl : clausesOf e = c :: cs) (hc0 : c.is_async = 0) (hs : ∀ x, foldedSetIterable c.iter env x = pure x) (hL : Lv n A) (hE : EnvOk sc env) (hW : D.Ok s.heap) (hF : Free A P s.heap) (hV : Vars P s.heap env Γ)
    (hfit : Fits sc sc') (hcg : Caught Γ sc' Γc) (hn : ∀ x ∈ sc'.names, x.2 = .local → sc'.names.lookup x.1 = some .local) (sr' : Solid r')
    (hit : Ev prog w D n sc Γ P iter (rSeq r) xs)
    (hdenS : ∀ I acc env, (model prog w).den (.compStart e 0 (.ref I) (.ref acc) env) = (compStart e 0 (.ref I) (.ref acc) env).onRaise (fun x => do noteFrame x env; standAt theWindowsPlace))
    (hqL : ∀ it acc env, (Code.compLoop e 0 it (.ref acc) env).quiet = true)
    (hwS : ∀ I acc env, A.under (.compStart e 0 (.ref I) (.ref acc) env) = A)
    (loop : ∀ (g : Heap) (cenv : Env) (I acc : Addr) (s₁ : Shared) (Pin : Addr → Prop), EnvOk sc' cenv → D.Ok g → g.get? I = none → Pin I → CSt A D g sc' cenv Pin Γc acc r' [] s₁ → ItAt r g Pin s₁.heap I xs →
      codeAny (model prog w) A (.compLoop e 0 (.ref I) (.ref acc) cenv) (fun q s' => q = .ok .next ∧ CSt A D g sc' cenv Pin Γc acc r' ys s' ∧ Chx (fun b => XC sc' cenv acc b ∨ b = I) s₁ s') s₁)
    (hR : ∀ C acc s', s.heap.get? C = none → (∃ m, s'.heap.Ns C m) → Done P s acc r' ys s' → compPost (model prog w) A E use Q (.ref acc) C (.ok .next) s') :
    wpAny (model prog w) A (comprehension e sc' env pos (newList []) false (eval iter env) use) Q E s := by
  have cellOf : ∀ x, (x, NameKind.free) ∈ sc'.names → ∃ c, env.cells.lookup x = some c := fun x hx => by
    rcases hfit.free x hx with h | h
    · exact (hE.cel x h).2
    · exact (hE.fre x h).2
  refine wpAny_comprehension_free hcl hs (closureFor_ok cellOf) hfit.kind hn (wpAny_mono (hit A env s E hL hE hW hF hV) (fun v s₁ h₁ => ?_) fun _ _ e => e)
  obtain ⟨k₁, hv⟩ := h₁
  have kk₁ := keeps_keep k₁
  refine iter_ghost hv fun I s₂ k₂ hI hsz it => ?_
  have kk₂ := keeps_keep k₂
  have hF₂ := (hF.keep kk₁).keep kk₂
  have hW₁ := hW.keep kk₁
  refine wpAny_newList ?_ (by rw [sizeLine_eq]; exact Nat.zero_le _)
  refine new_compEnv ?_
  generalize hacc : s₂.heap.objs.size = acc
  have hk₃ : Keep s₂.heap (s₂.heap.push { cls := .type "list", data := .seq ([] : List Value).toArray }) := .of fun b o e => Heap.get?_push_of_some _ e
  have haccget : (s₂.heap.push { cls := .type "list", data := .seq ([] : List Value).toArray }).get? acc = some { cls := .type "list", data := .seq ([] : List Value).toArray } := hacc ▸ Heap.get?_push_size _ rfl
  have hsz₃ : (s₂.heap.push { cls := .type "list", data := .seq ([] : List Value).toArray }).objs.size = acc + 1 := by rw [Heap.size_push, hacc]
  generalize hH₃ : s₂.heap.push { cls := .type "list", data := .seq ([] : List Value).toArray } = H₃ at hk₃ haccget hsz₃ ⊢
  dsimp only
  rw [hsz₃]
  have hk₄ : Keep H₃ (H₃.push { cls := .type "dict", data := .dict #[] }) := .of fun b o e => Heap.get?_push_of_some _ e
  have hk₅ : Keep (H₃.push { cls := .type "dict", data := .dict #[] }) (pushCells (H₃.push { cls := .type "dict", data := .dict #[] }) sc'.names) := .of fun b o e => pushCells_keeps _ _ b o e
  have hns : (H₃.push { cls := .type "dict", data := .dict #[] }).Ns (acc + 1) fun _ => none := hsz₃ ▸ Heap.Ns.new H₃ (.type "dict")
  have hsz₄ : (H₃.push { cls := .type "dict", data := .dict #[] }).objs.size = acc + 1 + 1 := by rw [Heap.size_push, hsz₃]
  generalize hH₅ : pushCells (H₃.push { cls := .type "dict", data := .dict #[] }) sc'.names = H₅ at hk₅ ⊢
  have hk : Keep s₂.heap H₅ := hk₃.trans (hk₄.trans hk₅)
  -- the block's frame
  have hlt : ∀ x c, env.cells.lookup x = some c → (x, NameKind.free) ∈ sc'.names → c < acc + 1 + 1 := fun x c hc hx => by
    obtain ⟨b, hb, hbn⟩ := List.mem_map.mp (hcg.all _ hx rfl)
    obtain ⟨v', hv', _⟩ := hV b hb
    have hbn' : b.name = x := hbn
    rw [hbn'] at hv'
    rcases hv' with ⟨hk', _⟩ | ⟨_, c', hc', o, ho, _⟩
    · rcases hfit.free x hx with h | h
      · rw [(hE.cel x h).1] at hk'; cases hk'
      · rcases (hE.fre x h).1 with q | q <;> rw [q] at hk' <;> cases hk'
    · rw [hc] at hc'; cases hc'
      obtain ⟨o₂, ho₂⟩ := (kk₁.trans kk₂ c o ho).alive
      have := Heap.lt_size ho₂
      rw [hacc] at this
      exact Nat.lt_of_lt_of_le this (Nat.le_trans (Nat.le_succ _) (Nat.le_succ _))
  have hcE : EnvOk sc' (compEnv sc' (acc + 1) env) := compEnv_ok hE hfit hlt
  obtain ⟨c1, c2, c3, c4⟩ := cellsFrom_facts sc'.names (acc + 1 + 1) (closOf env sc'.names []) hfit.nodup
  have hown : ∀ b, Own sc' (compEnv sc' (acc + 1) env) b → acc + 1 ≤ b := fun b o => by
    rcases o with rfl | ⟨x, hx, hc⟩
    · exact Nat.le_refl _
    · obtain ⟨c, h1, h2⟩ := c1 x (mem_of_lookup hx)
      have hc' : (cellsFrom (acc + 1 + 1) sc'.names (closOf env sc'.names [])).lookup x = some b := hc
      rw [h2] at hc'; cases hc'
      exact Nat.le_trans (Nat.le_succ _) h1
  have hfm : Fm sc' (compEnv sc' (acc + 1) env) H₅ := ⟨⟨_, hk₅.ns hns⟩, fun x c hx hc => ⟨none, by rw [← hH₅]; exact c4 _ hsz₄ x c (mem_of_lookup hx) hc⟩⟩
  have hgnone : ∀ b, s₁.heap.objs.size ≤ b → s₁.heap.get? b = none := fun b hb => by
    cases q : s₁.heap.get? b with
    | none => rfl
    | some o => exact absurd (Heap.lt_size q) (Nat.not_lt.mpr hb)
  have hIacc : I + 1 = acc := by rw [← hsz, hacc]
  have hgI : s₁.heap.get? I = none := hgnone I (Nat.le_of_eq hI.symm)
  have hle : s₁.heap.objs.size ≤ acc := by rw [← hIacc, hI]; exact Nat.le_succ _
  have hgacc : s₁.heap.get? acc = none := hgnone _ hle
  have hPI : P I := hI ▸ (hF.keep kk₁).new
  have hPacc : P acc := hacc ▸ hF₂.new
  -- inside
  let Pin : Addr → Prop := fun b => P b ∧ b ≠ acc ∧ ¬ Own sc' (compEnv sc' (acc + 1) env) b
  have pin_of : ∀ b o, P b → s₁.heap.get? b = some o → Pin b := fun b o p e => by
    have : b < s₁.heap.objs.size := Heap.lt_size e
    refine ⟨p, fun q => ?_, fun q => ?_⟩
    · rw [q] at this; exact absurd this (Nat.not_lt.mpr hle)
    · exact absurd (Nat.lt_of_lt_of_le this hle) (Nat.not_lt.mpr (Nat.le_trans (Nat.le_succ _) (hown b q)))
  have hPinI : Pin I := ⟨hPI, fun q => by rw [q] at hIacc; exact absurd hIacc (Nat.succ_ne_self _), fun q => by have := hown I q; rw [← hIacc] at this; exact absurd this (Nat.not_le.mpr (Nat.lt_succ_of_lt (Nat.lt_succ_self _)))⟩
  have hst : CSt A D s₁.heap sc' (compEnv sc' (acc + 1) env) Pin Γc acc r' [] { s₂ with heap := H₅ } := by
    refine ⟨hW₁, kk₂.trans hk, hfm, fun b o => hgnone b (Nat.le_trans hle (Nat.le_trans (Nat.le_succ _) (hown b o))), fun b o p => p.2.2 o, ⟨fun b hb => ?_, hF₂.fr' (fun b z p => z p.1) fun L m _ q => ⟨m, hk.ns q⟩⟩, fun b hb => ?_, fun m hm => ?_, by simp⟩
    · by_cases hp : P b
      · by_cases q : b = acc
        · exact ⟨_, q ▸ ((hk₄.trans hk₅) _ _ haccget).get (not_fra fun _ _ z => by cases z), fun vs z => by cases z⟩
        · have : Own sc' (compEnv sc' (acc + 1) env) b := by
            apply Classical.byContradiction
            intro no; exact hb ⟨hp, q, no⟩
          exact hfm.ta this
      · obtain ⟨o, ho, nf⟩ := hF₂.ta b hp
        obtain ⟨o', ho', d, _⟩ := (hk b o ho).obj
        exact ⟨o', ho', fun vs => d ▸ nf vs⟩
    · obtain ⟨hbΓ, hbf⟩ := hcg.sub b hb
      obtain ⟨v', hv', hr'⟩ := hV b hbΓ
      have hxm := mem_of_lookup hbf
      refine ⟨v', ?_, .inl (b.r.mono (fun x o p e => let ⟨o', e'⟩ := (kk₁ x o e).alive; pin_of x o' p e') kk₁ hr')⟩
      · rcases hv' with ⟨hk', _⟩ | ⟨_, c', hc', hcell⟩
        · rcases hfit.free _ hxm with h | h
          · rw [(hE.cel _ h).1] at hk'; cases hk'
          · rcases (hE.fre _ h).1 with q | q <;> rw [q] at hk' <;> cases hk'
        · refine .inr ⟨(hcE.fre _ hbf).1, c', ?_, (kk₁.trans (kk₂.trans hk)).cell hcell⟩
          have hnc : (b.name, NameKind.cell) ∉ sc'.names := fun hc => by
            have := lookup_mem hfit.nodup hc
            rw [hbf] at this; cases this
          show (cellsFrom (acc + 1 + 1) sc'.names (closOf env sc'.names [])).lookup b.name = some c'
          rw [c2 _ hnc, (closOf_lookup env sc'.names [] b.name hfit.nodup).1 hxm, hc']; rfl
    · rw [List.mem_singleton] at hm
      subst hm
      exact ⟨fun p => p.2.1 rfl, hgacc, sr', #[], (hk₄.trans hk₅).plain ⟨_, haccget⟩, by simpa using Paired.nil⟩
  have it' : ItAt r s₁.heap Pin H₅ I xs := (it Pin pin_of).keeps (s := s₂) (s' := { s₂ with heap := H₅ }) ⟨H₅, s₂.toks, rfl, hk⟩
  have hcenv : ({ { compEnv sc' (acc + 1) env with scope := sc' } with scope := relabel sc' env } : Env) = compEnv sc' (acc + 1) env := rfl
  rw [hcenv]
  refine start_ok (xs := xs) (r := r) (g := s₁.heap) (P := Pin) (hdenS _ _ _) (fun it => hqL _ _ _) (show (clausesOf e)[0]? = some c by rw [hcl]; rfl) hc0 (hwS _ _ _) it' ?_
  refine codeAny_mono (loop s₁.heap _ I acc _ Pin hcE hW₁ hgI hPinI hst it') fun q s' hq => ?_
  obtain ⟨rfl, t, ch⟩ := hq
  refine hR (acc + 1) acc s' ?_ t.fm.ns ⟨?_, ?_, hPacc, ?_⟩
  · have : s.heap.get? (acc + 1) = none := by
      cases q : s.heap.get? (acc + 1) with
      | none => rfl
      | some o => obtain ⟨o', this⟩ := (kk₁ _ _ q).alive; rw [hgnone _ (Nat.le_trans hle (Nat.le_succ _))] at this; cases this
    exact this
  · refine keeps_trans k₁ (Chx.toKeeps (X := fun b => XC sc' (compEnv sc' (acc + 1) env) acc b ∨ b = I) ((Chx.keeps k₂).trans (Chx.trans (Chx.keeps ⟨H₅, s₂.toks, rfl, hk⟩) ch)) fun b o e x => ?_)
    have : b < s₁.heap.objs.size := Heap.lt_size e
    rcases x with (x | x) | x
    · exact absurd (Nat.lt_of_lt_of_le this hle) (Nat.not_lt.mpr (Nat.le_trans (Nat.le_succ _) (hown b x)))
    · rw [x] at this; exact absurd this (Nat.not_lt.mpr hle)
    · rw [x, hI] at this; exact absurd this (Nat.lt_irrefl _)
  · cases q : s.heap.get? acc with
    | none => rfl
    | some o => obtain ⟨o', this⟩ := (kk₁ _ _ q).alive; rw [hgacc] at this; cases this
  · obtain ⟨_, _, _, items, hl, hp⟩ := t.mus _ (.head _)
    exact ⟨items, hl, paired_imp (fun _ _ y => r'.weak (fun b _ p _ => ⟨p.1, p.2.1⟩) y) hp⟩
end
end Mine
end

section
open PySem PySem.W
set_option Elab.async false
set_option linter.unusedVariables false
set_option linter.unusedSectionVars false
namespace Mine
variable [Lim]
section
variable {prog : Program} {w : World} {D : Wd} {sc sc' : Scope} {env : Env} {P : Addr → Prop} {Γ Γc : List Bnd} {n : Nat} {A : Around} {α β γ : Type} {r : Rel α} {r' : Rel β} {r₂ : Rel γ} {s : Shared} {E : Value → Shared → Prop}

/-- how a clause's target takes an item -/
noncomputable def Tgt (prog : Program) (w : World) (D : Wd) (sc : Scope) (Γ : List Bnd) (target : Expr) (r : Rel α) (Δ : α → List Bnd) : Prop :=
  ∀ (g : Heap) (env : Env) (P : Addr → Prop) (M : List Mu) (A : Around) (n : Nat) (x : α) (v : Value) (s : Shared) (E : Value → Shared → Prop), Lv n A → EnvOk sc env → St A D g sc env P Γ M s → Held g P s.heap r v x →
    wpAny (model prog w) A (assign target env v) (fun _ s' => St A D g sc env P (Δ x ++ Γ) M s' ∧ Chx (Own sc env) s s') E s

theorem Tgt.name {tgt : Str} {px : Pos} (h : sc.names.lookup tgt = some .local ∨ sc.names.lookup tgt = some .cell) (hn : ∀ b ∈ Γ, b.name ≠ tgt) : Tgt prog w D sc Γ (.Name tgt px) r fun x => [⟨tgt, r, x⟩] := by
  intro g env P M A n x v s E hL hE t hv
  refine wpAny_assign_Name (wpAny_mono (t.store (Γ' := [⟨tgt, r, x⟩] ++ Γ) hE h hv fun b hb => ?_) (fun _ s' q => ⟨q.1, q.2.1, q.2.2⟩) fun _ _ e => e)
  rcases List.mem_append.mp hb with q | q
  · exact .inl (List.mem_singleton.mp q)
  · exact .inr ⟨q, hn b q⟩

/-- what a new list gives -/
noncomputable def EvNew (prog : Program) (w : World) (D : Wd) (n : Nat) (sc : Scope) (Γ : List Bnd) (P : Addr → Prop) (e : Expr) (r : Rel β) (ys : List β) : Prop :=
  ∀ A env s (E : Value → Shared → Prop), Lv n A → EnvOk sc env → D.Ok s.heap → Free A P s.heap → Vars P s.heap env Γ →
    wpAny (model prog w) A (eval e env) (fun v s' => ∃ acc, v = .ref acc ∧ Done P s acc r ys s') E s
theorem EvNew.ev {e : Expr} {ys : List β} (h : EvNew prog w D n sc Γ P e r' ys) : Ev prog w D n sc Γ P e (rList r') ys :=
  fun A env s E hL hE hW hF hV => wpAny_mono (h A env s E hL hE hW hF hV) (fun v s' ⟨acc, e, d⟩ => ⟨d.1, e ▸ d.list⟩) fun _ _ e => e
theorem EvNew.cast {e : Expr} {ys zs : List β} (h : EvNew prog w D n sc Γ P e r' ys) (q : ys = zs) : EvNew prog w D n sc Γ P e r' zs := q ▸ h

theorem Vars.toAll {Γ : List Bnd} (h : ∀ p ∈ sc'.names, p.2 = NameKind.free → p.1 ∈ Γ.map (·.name)) : True := trivial
theorem fits_local (hf : Fits sc sc') : ∀ x ∈ sc'.names, x.2 = .local → sc'.names.lookup x.1 = some .local := fun x hx hk => by
  have := lookup_mem hf.nodup (x := x.1) (k := x.2) (by cases x; exact hx)
  rw [this, hk]

/-- the comprehension's run, whatever is done with its list -/
noncomputable def CompRun (prog : Program) (w : World) (D : Wd) (n : Nat) (sc sc' : Scope) (Γ : List Bnd) (P : Addr → Prop) (e iter : Expr) (pos : Pos) (r' : Rel β) (ys : List β) : Prop :=
  ∀ A env s (E : Value → Shared → Prop) (use : Option (Value → Sem Unit)) (Q : Value → Shared → Prop), Lv n A → EnvOk sc env → D.Ok s.heap → Free A P s.heap → Vars P s.heap env Γ →
    (∀ C acc s', s.heap.get? C = none → (∃ m, s'.heap.Ns C m) → Done P s acc r' ys s' → compPost (model prog w) A E use Q (.ref acc) C (.ok .next) s') →
    wpAny (model prog w) A (comprehension e sc' env pos (newList []) false (eval iter env) use) Q E s

theorem filter_map_eq {p : α → Bool} {f : α → β} : ∀ xs : List α, (xs.flatMap fun x => if p x then [f x] else []) = (xs.filter p).map f
  | [] => rfl
  | x :: xs => by
    rw [List.flatMap_cons, filter_map_eq xs, List.filter_cons]
    cases p x <;> rfl

theorem run1 {elt iter target : Expr} {ifs : List Expr} {pos pos' : Pos} {xs : List α} {p : α → Bool} {f : α → β} {Δ : α → List Bnd}
    (hit : Ev prog w D n sc Γ P iter (rSeq r) xs) (hfit : Fits sc sc') (hcg : Caught Γ sc' Γc) (sr' : Solid r') (htgt : Tgt prog w D sc' Γc target r Δ)
    (htest : ∀ Pin, ∀ x ∈ xs, Tests prog w D n sc' (Δ x ++ Γc) Pin ifs (p x)) (helt : ∀ Pin, ∀ x ∈ xs, p x = true → Ev prog w D n sc' (Δ x ++ Γc) Pin elt r' (f x))
    (hsz : xs.length ≤ sizeLine) (hs : ∀ env x, foldedSetIterable iter env x = pure x := by intro _ _; rfl) :
    CompRun prog w D n sc sc' Γ P (.ListComp elt [⟨target, iter, ifs, 0⟩] sc' pos) iter pos' r' ((xs.filter p).map f) := by
  intro A env s E use Q hL hE hW hF hV hR
  refine comp_core (c := ⟨target, iter, ifs, 0⟩) (cs := []) rfl rfl (hs env) hL hE hW hF hV hfit hcg (fits_local hfit) sr' hit (fun _ _ _ => rfl) (fun _ _ _ => rfl) (fun _ _ _ => rfl) (fun g cenv I acc s₁ Pin hcE hWg hgI hPI t it => ?_) hR
  refine comp_loop (target := target) (ip := iter.pos) (ifs := ifs) (emit := emitAppend elt (.ref acc) cenv) rfl (fun _ => rfl) (fun _ => rfl) (fun it => turn1 elt target iter ifs sc' pos it _ _) hL hcE Δ p (fun x => [f x]) hgI hPI
    (fun x v s zs E t hv => wpAny_mono (htgt g cenv Pin _ A n x v s E hL hcE t hv) (fun _ s' q => ⟨q.1, q.2.mono fun b o => .inl o⟩) fun _ _ e => e) _ ?_ xs (htest Pin) (fun x s zs E hx hp t hz => ?_) (by rw [List.nil_append]; exact filter_map_eq xs) t it
  · rw [List.length_map]; exact Nat.le_trans (List.length_filter_le _ _) hsz
  · exact append_ok t hL hcE (helt Pin x hx hp) (by rw [List.length_append] at hz; omega)

theorem run2 {elt iter target iter₂ target₂ : Expr} {ifs ifs₂ : List Expr} {pos pos' : Pos} {xs : List α} {ys : α → List γ} {p : α → Bool} {q : α → γ → Bool} {f : α → γ → β} {Δ : α → List Bnd} {Δ₂ : α → γ → List Bnd}
    (hit : Ev prog w D n sc Γ P iter (rSeq r) xs) (hfit : Fits sc sc') (hcg : Caught Γ sc' Γc) (sr' : Solid r') (sr₂ : Solid r₂) (htgt : Tgt prog w D sc' Γc target r Δ)
    (htest : ∀ Pin, ∀ x ∈ xs, Tests prog w D n sc' (Δ x ++ Γc) Pin ifs (p x))
    (hit₂ : ∀ Pin, ∀ x ∈ xs, p x = true → Ev prog w D n sc' (Δ x ++ Γc) Pin iter₂ (rList r₂) (ys x)) (htgt₂ : ∀ x ∈ xs, Tgt prog w D sc' (Δ x ++ Γc) target₂ r₂ (Δ₂ x))
    (htest₂ : ∀ Pin, ∀ x ∈ xs, p x = true → ∀ y ∈ ys x, Tests prog w D n sc' (Δ₂ x y ++ (Δ x ++ Γc)) Pin ifs₂ (q x y))
    (helt : ∀ Pin, ∀ x ∈ xs, p x = true → ∀ y ∈ ys x, q x y = true → Ev prog w D n sc' (Δ₂ x y ++ (Δ x ++ Γc)) Pin elt r' (f x y))
    (hsz : (xs.flatMap fun x => if p x then ((ys x).filter (q x)).map (f x) else []).length ≤ sizeLine)
    (hs : ∀ env x, foldedSetIterable iter env x = pure x := by intro _ _; rfl) (hs₂ : ∀ env x, foldedSetIterable iter₂ env x = pure x := by intro _ _; rfl) :
    CompRun prog w D n sc sc' Γ P (.ListComp elt [⟨target, iter, ifs, 0⟩, ⟨target₂, iter₂, ifs₂, 0⟩] sc' pos) iter pos' r' (xs.flatMap fun x => if p x then ((ys x).filter (q x)).map (f x) else []) := by
  intro A env s E use Q hL hE hW hF hV hR
  refine comp_core (c := ⟨target, iter, ifs, 0⟩) (cs := [⟨target₂, iter₂, ifs₂, 0⟩]) rfl rfl (hs env) hL hE hW hF hV hfit hcg (fits_local hfit) sr' hit (fun _ _ _ => rfl) (fun _ _ _ => rfl) (fun _ _ _ => rfl) (fun g cenv I acc s₁ Pin hcE hWg hgI hPI t it => ?_) hR
  refine comp_loop (target := target) (ip := iter.pos) (ifs := ifs) (emit := emitInner (.ListComp elt [⟨target, iter, ifs, 0⟩, ⟨target₂, iter₂, ifs₂, 0⟩] sc' pos) 1 iter₂ (.ref acc) cenv) rfl (fun _ => rfl) (fun _ => rfl)
    (fun it => turn20 elt target iter target₂ iter₂ ifs ifs₂ sc' pos it _ _) hL hcE Δ p (fun x => ((ys x).filter (q x)).map (f x)) hgI hPI
    (fun x v s zs E t hv => wpAny_mono (htgt g cenv Pin _ A n x v s E hL hcE t hv) (fun _ s' q => ⟨q.1, q.2.mono fun b o => .inl o⟩) fun _ _ e => e) _ hsz xs (htest Pin) (fun x s zs E hx hp t hz => ?_) (List.nil_append _) t it
  unfold emitInner
  refine wpAny_bind (wpAny_mono (hit₂ Pin x hx hp A cenv s E hL hcE t.world t.free t.toVars) (fun v s₁ h₁ => ?_) fun _ _ e => e)
  obtain ⟨k₁, hv⟩ := h₁
  have t₁ := t.keeps k₁
  refine wpAny_bind (wpAny_standAt (wpAny_bind (wpAny_of_eq (hs₂ cenv v) (wpAny_bind (wpAny_holding ?_)))))
  refine iter_solid (g := g) sr₂ hv fun I₂ s₂ k₂ hI₂ it₂ => ?_
  have t₂ := t₁.keeps k₂
  have hnew : s₁.heap.get? I₂ = none := hI₂ ▸ get_size _
  have hgI₂ : g.get? I₂ = none := by
    cases q : g.get? I₂ with
    | none => rfl
    | some o => obtain ⟨o2, this⟩ := (t₁.keep I₂ o q).alive; rw [hnew] at this; cases this
  have hPI₂ : Pin I₂ := hI₂ ▸ t₁.free.new
  refine wpAny_bind (wpAny_runOwn (codeAny_mono (start_ok (A := A) (xs := ys x) (r := r₂) (g := g) (P := Pin) rfl (fun _ => rfl) (c := ⟨target₂, iter₂, ifs₂, 0⟩) rfl rfl rfl it₂
    (comp_loop (target := target₂) (ip := iter₂.pos) (ifs := ifs₂) (emit := emitAppend elt (.ref acc) cenv) rfl (fun _ => rfl) (fun _ => rfl) (fun it => turn21 elt target iter target₂ iter₂ ifs ifs₂ sc' pos it _ _) hL hcE (Δ₂ x) (q x) (fun y => [f x y]) hgI₂ hPI₂
      (fun y v s zs E t hv => wpAny_mono (htgt₂ x hx g cenv Pin _ A n y v s E hL hcE t hv) (fun _ s' q => ⟨q.1, q.2.mono fun b o => .inl o⟩) fun _ _ e => e) (zs ++ ((ys x).filter (q x)).map (f x)) hz (ys x) (htest₂ Pin x hx hp)
      (fun y s zs E hy hq t hz => append_ok t hL hcE (helt Pin x hx hp y hy hq) (by rw [List.length_append] at hz; omega)) (by rw [filter_map_eq]) t₂ it₂)) fun qq s' hq => ?_))
  obtain ⟨rfl, t', ch⟩ := hq
  refine wpAny_pure ⟨t', ?_⟩
  refine ((Chx.keeps k₁).trans (Chx.trans (Chx.keeps k₂) ch)).fresh fun b o x e => ?_
  rcases x with x | x
  · exact x
  · rw [x] at e
    obtain ⟨o2, this⟩ := (keeps_keep k₁ _ _ e).alive
    rw [hnew] at this; cases this

theorem CompRun.ev {elt : Expr} {gens : List Comprehension} {pos : Pos} {target iter : Expr} {ifs : List Expr} {rest : List Comprehension} {ys : List β} (hg : gens = ⟨target, iter, ifs, 0⟩ :: rest) (sr' : Solid r')
    (h : CompRun prog w D n sc sc' Γ P (.ListComp elt gens sc' pos) iter (firstIterPos gens pos) r' ys) : EvNew prog w D n sc Γ P (.ListComp elt gens sc' pos) r' ys := by
  subst hg
  intro A env s E hL hE hW hF hV
  rw [eval_ListComp]
  refine h A env s E none _ hL hE hW hF hV fun C acc s' hC hm d => ?_
  obtain ⟨m, hm⟩ := hm
  refine ⟨m, hm, fun h' hs => ⟨acc, rfl, ?_⟩⟩
  obtain ⟨k, hn, pa, items, hl, hp⟩ := d
  have hCl : ∀ b items, s'.heap.PlainList b items → b ≠ C := fun b items hl e => by
    obtain ⟨n, ho⟩ := hl
    obtain ⟨o', es, ep, ho', hd', _⟩ := hm
    rw [e, ho'] at ho; cases ho; cases hd'
  refine ⟨?_, hn, pa, items, ?_, paired_imp (fun _ _ y => sr' (fun b o p kd e => ⟨p, (hs.2 b fun q => ?_).trans e⟩) y) hp⟩
  · obtain ⟨hh, tk, rfl, kk⟩ := k
    exact ⟨h', tk, rfl, fun b o e => (kk b o e).trans fun o' e' => .of ((hs.2 b fun q => by rw [q, hC] at e; cases e).trans e')⟩
  · obtain ⟨o, ho⟩ := id hl
    exact ⟨o, (hs.2 acc (hCl acc items hl)).trans ho⟩
  · obtain ⟨o', es, ep, ho', hd', _⟩ := hm
    rw [q, ho'] at e; cases e; unfold Kd at kd; rw [hd'] at kd; exact kd
end
end Mine
end

section
open PySem PySem.W
set_option Elab.async false
set_option linter.unusedVariables false
set_option linter.unusedSectionVars false
namespace Mine
variable [Lim]

section
variable (prog : Program) (w : World) (D : Wd)
/-- a statement, for whatever the block lies in -/
noncomputable def Ex (n : Nat) (sc : Scope) (P : Addr → Prop) (Γ : List Bnd) (M : List Mu) (st : Stmt) (Γ' : List Bnd) (M' : List Mu) : Prop :=
  ∀ A g env s (E : Value → Shared → Prop), Lv n A → EnvOk sc env → St A D g sc env P Γ M s →
    wpAny (model prog w) A (exec st env) (fun f s' => f = .next ∧ St A D g sc env P Γ' M' s' ∧ Chx (Mns sc env M) s s') E s
noncomputable def ExS (n : Nat) (sc : Scope) (P : Addr → Prop) (Γ : List Bnd) (M : List Mu) (sts : List Stmt) (Γ' : List Bnd) (M' : List Mu) : Prop :=
  ∀ A g env s (E : Value → Shared → Prop), Lv n A → EnvOk sc env → St A D g sc env P Γ M s →
    wpAny (model prog w) A (execs sts env) (fun f s' => f = .next ∧ St A D g sc env P Γ' M' s' ∧ Chx (Mns sc env M) s s') E s
end

section
variable {prog : Program} {w : World} {D : Wd} {g : Heap} {sc sc' : Scope} {env : Env} {P : Addr → Prop} {Γ Γ' Γ'' Γc : List Bnd} {M M' M'' : List Mu} {n : Nat} {A : Around} {α β γ : Type} {r : Rel α} {r' : Rel β} {s : Shared} {E : Value → Shared → Prop}

theorem ExS.nil (h : ∀ b ∈ Γ', b ∈ Γ) : ExS prog w D n sc P Γ M [] Γ' M := fun A g env s E hL hE t => wpAny_execs_nil ⟨rfl, t.sub h, Chx.refl s⟩
theorem ExS.cons {st : Stmt} {sts : List Stmt} (hm : M'.map (·.a) = M.map (·.a)) (h : Ex prog w D n sc P Γ M st Γ' M') (h' : ExS prog w D n sc P Γ' M' sts Γ'' M'') : ExS prog w D n sc P Γ M (st :: sts) Γ'' M'' := by
  intro A g env s E hL hE t
  refine wpAny_execs_cons (wpAny_mono (h A g env s E hL hE t) (fun f s₁ q => ?_) fun _ _ e => e)
  obtain ⟨rfl, t₁, c₁⟩ := q
  refine wpAny_mono (h' A g env s₁ E hL hE t₁) (fun f s₂ q => ?_) fun _ _ e => e
  obtain ⟨rfl, t₂, c₂⟩ := q
  refine ⟨rfl, t₂, c₁.trans (c₂.mono fun b x => x.imp id fun ⟨m, hm', e⟩ => ?_)⟩
  have : b ∈ M'.map (·.a) := e ▸ List.mem_map_of_mem hm'
  rw [hm] at this
  obtain ⟨m', h1, h2⟩ := List.mem_map.mp this
  exact ⟨m', h1, h2⟩
theorem Ex.pre {st : Stmt} {Δ : List Bnd} (h : Ex prog w D n sc P Δ M st Γ' M') (hs : ∀ b ∈ Δ, b ∈ Γ) : Ex prog w D n sc P Γ M st Γ' M' := fun A g env s E hL hE t => h A g env s E hL hE (t.sub hs)

/-- the block's names, its own lists among them -/
noncomputable def Seen (Γ : List Bnd) (M : List Mu) (Θ : List Bnd) : Prop := ∀ b ∈ Θ, b ∈ Γ ∨ ∃ (nm : Str) (m : Mu), m ∈ M ∧ (⟨nm, rAddr, m.a⟩ : Bnd) ∈ Γ ∧ b = ⟨nm, rRoot m.r, m.xs⟩
theorem Seen.self : Seen Γ M Γ := fun b hb => .inl hb
theorem St.seen {Θ : List Bnd} (t : St A D g sc env P Γ M s) (h : Seen Γ M Θ) : Vars P s.heap env Θ := by
  intro b hb
  rcases h b hb with hb | ⟨nm, m, hm, hΓ, rfl⟩
  · exact t.toVars b hb
  · obtain ⟨v, hv, hr⟩ := t.toVars _ hΓ
    have hr' : v = .ref m.a := hr
    subst hr'
    obtain ⟨_, _, _, items, hl, hp⟩ := t.mus m hm
    exact ⟨_, hv, m.a, items, rfl, hl.isList, hp⟩

noncomputable abbrev Stor (sc : Scope) (x : Str) : Prop := sc.names.lookup x = some .local ∨ sc.names.lookup x = some .cell

theorem mns_of_own : ∀ b, Own sc env b → Mns sc env M b := fun b o => .inl o
theorem chx_own {s s' : Shared} (c : Chx (Own sc env) s s') : Chx (Mns sc env M) s s' := c.mono mns_of_own

theorem St.bind {x : Str} {v : Value} {y : α} (t : St A D g sc env P Γ M s) (hE : EnvOk sc env) (hx : Stor sc x) (hv : Held g P s.heap r v y) (hΓ : ∀ b ∈ Γ', b = ⟨x, r, y⟩ ∨ (b ∈ Γ ∧ b.name ≠ x)) :
    wpAny (model prog w) A (storeName env x v) (fun _ s' => St A D g sc env P Γ' M s' ∧ Chx (Own sc env) s s') E s :=
  wpAny_mono (t.store hE hx hv hΓ) (fun _ s' q => ⟨q.1, q.2.1, q.2.2⟩) fun _ _ e => e

theorem Ex.assign {x : Str} {p pos : Pos} {e : Expr} {y : α} {Θ : List Bnd} (hs : Seen Γ M Θ) (he : Ev prog w D n sc Θ P e r y) (sr : Solid r) (hx : Stor sc x) (hΓ : ∀ b ∈ Γ', b = ⟨x, r, y⟩ ∨ (b ∈ Γ ∧ b.name ≠ x))
    (hw : ∀ env, swapsWith e (some (.Name x p)) pos.line env = pure false := by intro _; rfl) : Ex prog w D n sc P Γ M (.Assign [.Name x p] e pos) Γ' M := by
  intro A g env s E hL hE t
  refine wpAny_Assign_Name (wpAny_mono (he A env s E hL hE t.world t.free (t.seen hs)) (fun v s₁ h₁ => ?_) fun _ _ e => e) (hw env)
  exact wpAny_mono ((t.keeps h₁.1).bind hE hx (.inr ⟨sr, h₁.2⟩) hΓ) (fun _ s' q => ⟨rfl, q.1, (Chx.keeps h₁.1).trans (chx_own q.2)⟩) fun _ _ e => e

/-- a namespace that is no more asked may change -/
theorem St.junk {C : Addr} {h' : Heap} {tk : Nat} (t : St A D g sc env P Γ M s) (hC : ∃ m, s.heap.Ns C m) (ho : ¬ Own sc env C) (hg : g.get? C = none) (hP : P C) (hs : Heap.SameBut C s.heap h') :
    St A D g sc env P Γ M { s with heap := h', toks := tk } := by
  obtain ⟨m₀, o₀, es, ep, ho₀, hd₀, _⟩ := hC
  obtain ⟨mL, hmL⟩ := t.fm.ns
  refine t.step (X := fun b => b = C) (fun b x => x ▸ hg) (fun b o x p kd e => ?_) (fun b o x e => .of ((hs.2 b x).trans e)) (fun b x np => absurd (x ▸ hP) np) (fun L m' x np _ => absurd (x ▸ hP) np) ⟨⟨mL, hmL.sameBut hs fun q => ho (.inl q.symm)⟩, fun x c hx hc => ?_⟩ (fun b hb => ?_) (fun m hm => ?_) t.dist
  · rw [x, ho₀] at e; cases e; unfold Kd at kd; rw [hd₀] at kd; exact kd
  · obtain ⟨v, hv⟩ := t.fm.cells x c hx hc
    exact ⟨v, hv.sameBut hs fun q => ho (.inr ⟨x, hx, q ▸ hc⟩)⟩
  · obtain ⟨v, a, c⟩ := t.vars b hb
    refine ⟨v, ?_, c⟩
    rcases a with ⟨hk, m, hm, hv⟩ | ⟨hk, cc, hcc, o, ho', hd⟩
    · exact .inl ⟨hk, m, hm.sameBut hs fun q => ho (.inl q.symm), hv⟩
    · refine .inr ⟨hk, cc, hcc, o, (hs.2 cc fun q => ?_).trans ho', hd⟩
      rw [q, ho₀] at ho'; cases ho'; rw [hd₀] at hd; cases hd
  · obtain ⟨a, b, c, items, ⟨o, ho'⟩, hp⟩ := t.mus m hm
    refine ⟨a, b, c, items, ⟨o, (hs.2 _ fun q => ?_).trans ho'⟩, hp⟩
    rw [q, ho₀] at ho'; cases ho'; cases hd₀

theorem swaps_comp {x : Str} {p : Pos} {elt : Expr} {gens : List Comprehension} {pos : Pos} {ln : Nat} (env : Env) :
    swapsWith (.ListComp elt gens sc' pos) (some (.Name x p)) ln env = pure true ∨ swapsWith (.ListComp elt gens sc' pos) (some (.Name x p)) ln env = pure false := by
  show (pure _ : Sem Bool) = pure true ∨ (pure _ : Sem Bool) = pure false
  generalize (env.blockKind == ScopeKind.function && env.kindOf x == some .local && p.line == (Expr.ListComp elt gens sc' pos).pos.line && !(sc'.names.any fun y => y.1 == x && (y.2 == .local || y.2 == .cell))) = b
  cases b
  · exact .inr rfl
  · exact .inl rfl

theorem exec_comp {x : Str} {p pos cpos : Pos} {elt target iter : Expr} {ifs : List Expr} {rest : List Comprehension} {ys : List β} {Θ : List Bnd} {Q : Flow → Shared → Prop} (t : St A D g sc env P Γ M s) (hL : Lv n A) (hE : EnvOk sc env) (hs : Seen Γ M Θ)
    (h : CompRun prog w D n sc sc' Θ P (.ListComp elt (⟨target, iter, ifs, 0⟩ :: rest) sc' cpos) iter (firstIterPos (⟨target, iter, ifs, 0⟩ :: rest) cpos) r' ys) (sr' : Solid r')
    (hk : ∀ acc s₁ (E : Value → Shared → Prop), Done P s acc r' ys s₁ → wpAny (model prog w) A (storeName env x (.ref acc)) (fun _ s' => Q .next s' ∧ (∀ C h', (∃ m, s'.heap.Ns C m) → s.heap.get? C = none → Heap.SameBut C s'.heap h' → Q .next { s' with heap := h' }) ∧ (∀ C, (∃ m, s₁.heap.Ns C m) → s.heap.get? C = none → ∃ m, s'.heap.Ns C m)) E s₁) :
    wpAny (model prog w) A (exec (.Assign [.Name x p] (.ListComp elt (⟨target, iter, ifs, 0⟩ :: rest) sc' cpos) pos) env) Q E s := by
  have hV := t.seen hs
  rcases swaps_comp (sc' := sc') (x := x) (p := p) (elt := elt) (gens := ⟨target, iter, ifs, 0⟩ :: rest) (pos := cpos) (ln := pos.line) env with hw | hw
  · rw [exec_Assign_Name_used _ _ _ _ hw]
    refine wpAny_bind (wpAny_standAt (wpAny_bind ?_))
    show wpAny _ A (do let _ ← comprehension (.ListComp elt (⟨target, iter, ifs, 0⟩ :: rest) sc' cpos) sc' env _ (newList []) false (eval iter env) (some (assign (.Name x p) env))) _ _ s
    refine wpAny_bind (wpAny_mono (h A env s E (some (assign (.Name x p) env)) (fun _ s' => Q .next s') hL hE t.world t.free hV fun C acc s₁ hC hm d => ?_) (fun _ s' q => wpAny_pure (wpAny_pure q)) fun _ _ e => e)
    refine wpAny_assign_Name (wpAny_mono (hk acc s₁ E d) (fun _ s' q => ?_) fun _ _ e => e)
    obtain ⟨m, hm'⟩ := q.2.2 C hm hC
    exact ⟨m, hm', fun h' hs => q.2.1 C h' ⟨m, hm'⟩ hC hs⟩
  · refine wpAny_Assign_Name ?_ hw
    refine wpAny_mono (CompRun.ev (rest := rest) rfl sr' h A env s E hL hE t.world t.free hV) (fun v s₁ q => ?_) fun _ _ e => e
    obtain ⟨acc, rfl, d⟩ := q
    exact wpAny_mono (hk acc s₁ E d) (fun _ s' q => q.1) fun _ _ e => e
end
end Mine
end

section
open PySem PySem.W
set_option Elab.async false
set_option linter.unusedVariables false
set_option linter.unusedSectionVars false
namespace Mine
variable [Lim]
section
variable {prog : Program} {w : World} {D : Wd} {g : Heap} {sc sc' : Scope} {env : Env} {P : Addr → Prop} {Γ Γ' Γ'' Γc Θ : List Bnd} {M M' M'' : List Mu} {n : Nat} {A : Around} {α β γ : Type} {r : Rel α} {r' : Rel β} {s : Shared} {E : Value → Shared → Prop}

/-- what is behind `x = [..]` -/
theorem exec_comp2 {x : Str} {p pos cpos : Pos} {elt target iter : Expr} {ifs : List Expr} {rest : List Comprehension} {ys : List β} {Q : Flow → Shared → Prop} (t : St A D g sc env P Γ M s) (hL : Lv n A) (hE : EnvOk sc env) (hs : Seen Γ M Θ)
    (h : CompRun prog w D n sc sc' Θ P (.ListComp elt (⟨target, iter, ifs, 0⟩ :: rest) sc' cpos) iter (firstIterPos (⟨target, iter, ifs, 0⟩ :: rest) cpos) r' ys) (sr' : Solid r') (hx : Stor sc x)
    (hk : ∀ acc s₁, Done P s acc r' ys s₁ → ∃ P' M' γ, ∃ (rb : Rel γ) (yb : γ), St A D g sc env P' Γ M' s₁ ∧ (∀ b, P b → b ≠ acc → P' b) ∧ Held g P' s₁.heap rb (.ref acc) yb ∧
      ∀ s', (∀ Γ' : List Bnd, (∀ b ∈ Γ', b = ⟨x, rb, yb⟩ ∨ (b ∈ Γ ∧ b.name ≠ x)) → St A D g sc env P' Γ' M' s') → Chx (Mns sc env M) s s' → Q .next s') :
    wpAny (model prog w) A (exec (.Assign [.Name x p] (.ListComp elt (⟨target, iter, ifs, 0⟩ :: rest) sc' cpos) pos) env) Q E s := by
  refine exec_comp t hL hE hs h sr' fun acc s₁ E d => ?_
  obtain ⟨P', M', γ, rb, yb, t₁, hP, hv, hq⟩ := hk acc s₁ d
  have into : ∀ Γ' : List Bnd, (∀ b ∈ Γ', b = ⟨x, rb, yb⟩ ∨ (b ∈ Γ ∧ b.name ≠ x)) → ∀ b ∈ Γ', b ∈ ((⟨x, rb, yb⟩ : Bnd) :: Γ.filter fun b => decide (b.name ≠ x)) := fun Γ' h b hb => by
    rcases h b hb with q | ⟨q, q'⟩
    · exact q ▸ List.mem_cons_self
    · exact List.mem_cons_of_mem _ (List.mem_filter.mpr ⟨q, by simpa using q'⟩)
  refine wpAny_mono (t₁.bind (Γ' := ⟨x, rb, yb⟩ :: Γ.filter fun b => decide (b.name ≠ x)) hE hx hv fun b hb => ?_) (fun _ s' q => ⟨?_, fun C h' hm hC hs => ?_, fun C hm hC => ?_⟩) fun _ _ e => e
  · rcases List.mem_cons.mp hb with q | q
    · exact .inl q
    · rw [List.mem_filter] at q
      exact .inr ⟨q.1, by simpa using q.2⟩
  · exact hq s' (fun Γ' hΓ' => q.1.sub fun b hb => into Γ' hΓ' b hb) ((Chx.keeps d.1).trans (chx_own q.2))
  · have hCo : ¬ Own sc env C := fun o => by obtain ⟨x, hx⟩ := t.fm.alive o; rw [hC] at hx; cases hx
    have hg : g.get? C = none := by
      cases e : g.get? C with
      | none => rfl
      | some o => obtain ⟨o2, this⟩ := (t.keep _ _ e).alive; rw [hC] at this; cases this
    have hPC : P C := by
      apply Classical.byContradiction
      intro np
      obtain ⟨o, ho⟩ := t.free.at C np; rw [hC] at ho; cases ho
    have hCa : C ≠ acc := fun e => by
      obtain ⟨m, hm⟩ := hm
      obtain ⟨_, hn, _, items, hl, _⟩ := id d
      obtain ⟨n, ho⟩ := Kept.plain hl fun o e => q.2.2 acc o (fun o' => by
          obtain ⟨x, hx⟩ := t.fm.alive o'
          rw [hn] at hx; cases hx) e
      obtain ⟨o', es, ep, ho', hd', _⟩ := hm
      rw [e, ho] at ho'; cases ho'; cases hd'
    have t₃ := q.1.junk (tk := s'.toks) hm hCo hg (hP C hPC hCa) hs
    refine hq _ (fun Γ' hΓ' => t₃.sub fun b hb => into Γ' hΓ' b hb) (Chx.fresh (Y := fun b => b = C ∨ Mns sc env M b) ((((Chx.keeps d.1).trans (chx_own q.2)).mono fun b => .inr).trans ⟨⟨h', s'.toks, rfl⟩, fun b o x e => .of ((hs.2 b fun q => x (.inl q)).trans e)⟩) fun b o y e => ?_)
    · rcases y with y | y
      · rw [y, hC] at e; cases e
      · exact y
  · obtain ⟨m, hm⟩ := hm
    exact ⟨m, Kept.ns hm fun o' ho' => q.2.2 C o' (fun o => by obtain ⟨x, hx⟩ := t.fm.alive o; rw [hC] at hx; cases hx) ho'⟩

theorem Ex.assignComp {x : Str} {p pos cpos : Pos} {elt target iter : Expr} {ifs : List Expr} {rest : List Comprehension} {ys : List β} (hs : Seen Γ M Θ)
    (h : CompRun prog w D n sc sc' Θ P (.ListComp elt (⟨target, iter, ifs, 0⟩ :: rest) sc' cpos) iter (firstIterPos (⟨target, iter, ifs, 0⟩ :: rest) cpos) r' ys) (sr' : Solid r') (hx : Stor sc x)
    (hΓ : ∀ b ∈ Γ', b = ⟨x, rList r', ys⟩ ∨ (b ∈ Γ ∧ b.name ≠ x)) : Ex prog w D n sc P Γ M (.Assign [.Name x p] (.ListComp elt (⟨target, iter, ifs, 0⟩ :: rest) sc' cpos) pos) Γ' M := by
  intro A g env s E hL hE t
  exact exec_comp2 t hL hE hs h sr' hx fun acc s₁ d => ⟨P, M, _, rList r', ys, t.keeps d.1, fun b p _ => p, .inr ⟨solid_list sr', d.list⟩, fun s' t' c => ⟨rfl, t' Γ' hΓ, c⟩⟩

/-- a new list that the block will change: from here on nothing else may bear it -/
theorem exec_make {x : Str} {p pos cpos : Pos} {elt target iter : Expr} {ifs : List Expr} {rest : List Comprehension} {ys : List β} {Q : Flow → Shared → Prop} (t : St A D g sc env P Γ M s) (hL : Lv n A) (hE : EnvOk sc env) (hs : Seen Γ M Θ)
    (h : CompRun prog w D n sc sc' Θ P (.ListComp elt (⟨target, iter, ifs, 0⟩ :: rest) sc' cpos) iter (firstIterPos (⟨target, iter, ifs, 0⟩ :: rest) cpos) r' ys) (sr' : Solid r') (hx : Stor sc x)
    (hQ : ∀ a s', (∀ Γ' : List Bnd, (∀ b ∈ Γ', b = ⟨x, rAddr, a⟩ ∨ (b ∈ Γ ∧ b.name ≠ x)) → St A D g sc env (fun b => P b ∧ b ≠ a) Γ' (⟨a, r', ys⟩ :: M) s') → (∃ h tk, s' = { s with heap := h, toks := tk }) → Q .next s') :
    wpAny (model prog w) A (exec (.Assign [.Name x p] (.ListComp elt (⟨target, iter, ifs, 0⟩ :: rest) sc' cpos) pos) env) Q E s := by
  refine exec_comp2 t hL hE hs h sr' hx fun acc s₁ d => ?_
  obtain ⟨k, hn, pa, items, hl, hp⟩ := d
  exact ⟨_, _, _, rAddr, acc, t.make k sr' hn hl hp, fun b p q => ⟨p, q⟩, .inl rfl, fun s' t' c => hQ acc s' t' c.1⟩

theorem step {st : Stmt} {sts : List Stmt} {R : Shared → Prop} {Q : Flow → Shared → Prop} (h : wpAny (model prog w) A (exec st env) (fun f s' => f = .next ∧ R s') E s) (k : ∀ s', R s' → wpAny (model prog w) A (execs sts env) Q E s') :
    wpAny (model prog w) A (execs (st :: sts) env) Q E s :=
  wpAny_execs_cons (wpAny_mono h (fun f s' q => by obtain ⟨rfl, q⟩ := q; exact k s' q) fun _ _ e => e)
theorem Ex.step {st : Stmt} {sts : List Stmt} {Q : Flow → Shared → Prop} (h : Ex prog w D n sc P Γ M st Γ' M') (hL : Lv n A) (hE : EnvOk sc env) (t : St A D g sc env P Γ M s) (k : ∀ s', St A D g sc env P Γ' M' s' → wpAny (model prog w) A (execs sts env) Q E s') :
    wpAny (model prog w) A (execs (st :: sts) env) Q E s := Mine.step (h A g env s E hL hE t) fun s' q => k s' q.1

-- several names at once
noncomputable def Helds (g : Heap) (P : Addr → Prop) (h : Heap) : List Value → List Bnd → Prop
  | [], [] => True
  | v :: vs, b :: bs => Held g P h b.r v b.x ∧ Helds g P h vs bs
  | _, _ => False
theorem Helds.ch {X : Addr → Prop} {s s' : Shared} (c : Chx X s s') (hX : ∀ b o, P b → Kd o → s.heap.get? b = some o → ¬ X b) : ∀ {vs : List Value} {bs : List Bnd}, Helds g P s.heap vs bs → Helds g P s'.heap vs bs
  | [], [], _ => trivial
  | [], _ :: _, h => h.elim
  | _ :: _, [], h => h.elim
  | v :: vs, b :: bs, h => ⟨h.1.ch c hX, h.2.ch c hX⟩
theorem helds_snoc {h : Heap} {v : Value} {b : Bnd} (hv : Held g P h b.r v b.x) : ∀ {vs : List Value} {bs : List Bnd}, Helds g P h vs bs → Helds g P h (vs ++ [v]) (bs ++ [b])
  | [], [], _ => ⟨hv, trivial⟩
  | [], _ :: _, h => h.elim
  | _ :: _, [], h => h.elim
  | _ :: vs, _ :: bs, h => ⟨h.1, helds_snoc hv h.2⟩
theorem helds_reverse {h : Heap} : ∀ {vs : List Value} {bs : List Bnd}, Helds g P h vs bs → Helds g P h vs.reverse bs.reverse
  | [], [], _ => trivial
  | [], _ :: _, h => h.elim
  | _ :: _, [], h => h.elim
  | v :: vs, b :: bs, h => by rw [List.reverse_cons, List.reverse_cons]; exact helds_snoc h.1 (helds_reverse h.2)

theorem stores_ok (hE : EnvOk sc env) : ∀ {bs : List Bnd} {vs : List Value} {Γ : List Bnd} {s : Shared} {E : Value → Shared → Prop} {fs : List (Value → Sem Unit)}, St A D g sc env P Γ M s → Helds g P s.heap vs bs → (∀ b ∈ bs, Stor sc b.name) → (bs.map (·.name)).Nodup →
    (∀ b ∈ bs, ∀ c ∈ Γ, c.name ≠ b.name) → (fs.length = bs.length ∧ ∀ (i : Nat) f b, fs[i]? = some f → bs[i]? = some b → ∀ v s Q E, wpAny (model prog w) A (storeName env b.name v) Q E s → wpAny (model prog w) A (f v) Q E s) →
    wpAny (model prog w) A (assignInOrder fs vs) (fun _ s' => (∀ Γ' : List Bnd, (∀ b ∈ Γ', b ∈ bs ∨ b ∈ Γ) → St A D g sc env P Γ' M s') ∧ Chx (Own sc env) s s') E s
  | [], vs, Γ, s, E, fs, t, hv, hx, hn, hd, hf => by
    have : fs = [] := List.eq_nil_of_length_eq_zero hf.1
    subst this
    cases vs with
    | nil => exact wpAny_assignInOrder_none ⟨fun Γ' h => t.sub fun b hb => (h b hb).elim (fun q => by cases q) id, Chx.refl s⟩
    | cons => exact hv.elim
  | b :: bs, vs, Γ, s, E, fs, t, hv, hx, hn, hd, hf => by
    cases vs with
    | nil => exact hv.elim
    | cons v vs =>
      cases fs with
      | nil => cases hf.1
      | cons f fs =>
        rw [List.map_cons, List.nodup_cons] at hn
        refine wpAny_assignInOrder_more (hf.2 0 f b rfl rfl v s _ _ (wpAny_mono (t.bind (Γ' := b :: Γ) hE (hx b List.mem_cons_self) hv.1 fun c hc => ?_) (fun _ s₁ q => ?_) fun _ _ e => e))
        · rcases List.mem_cons.mp hc with rfl | hc
          · exact .inl rfl
          · exact .inr ⟨hc, hd b List.mem_cons_self c hc⟩
        · obtain ⟨t₁, c₁⟩ := q
          refine wpAny_mono (stores_ok hE (bs := bs) t₁ (hv.2.ch c₁ fun b o p _ _ x => t.pown b x p) (fun c hc => hx c (List.mem_cons_of_mem _ hc)) hn.2 (fun c hc e he => ?_) ⟨by simpa using hf.1, fun i f' b' h1 h2 => hf.2 (i + 1) f' b' h1 h2⟩) (fun _ s₂ q => ⟨fun Γ' h => q.1 Γ' fun e he => ?_, c₁.trans q.2⟩) fun _ _ e => e
          · rcases List.mem_cons.mp he with rfl | he
            · exact fun q => hn.1 (q ▸ List.mem_map_of_mem (f := (·.name)) hc)
            · exact hd c (List.mem_cons_of_mem _ hc) e he
          · rcases h e he with q | q
            · rcases List.mem_cons.mp q with rfl | q
              · exact .inr List.mem_cons_self
              · exact .inl q
            · exact .inr (List.mem_cons_of_mem _ q)
end
end Mine
end

section
open PySem PySem.W
set_option Elab.async false
set_option linter.unusedVariables false
set_option linter.unusedSectionVars false
namespace Mine
variable [Lim]
section
variable {prog : Program} {w : World} {D : Wd} {g : Heap} {sc sc' : Scope} {env : Env} {P : Addr → Prop} {Γ Γ' Γ'' Γc Θ : List Bnd} {M M' M'' : List Mu} {n : Nat} {A : Around} {α β γ : Type} {r : Rel α} {r' : Rel β} {s : Shared} {E : Value → Shared → Prop}

theorem swapped_names {xs : List (Str × Pos)} {vs : List Expr} {k k' : Nat} {p p' : Pos} (hk : env.scope.kind = .function) (hc : vs.all (constantsAlone 8) = false) :
    swappedStores [.Tuple (xs.map fun x => .Name x.1 x.2) k p] (.Tuple vs k' p') env = pure none ∨ swappedStores [.Tuple (xs.map fun x => .Name x.1 x.2) k p] (.Tuple vs k' p') env = pure (some (xs.map (·.1))) := by
  unfold swappedStores
  dsimp only
  split
  · exact .inl rfl
  · split
    · exact .inl rfl
    · generalize hl : ((List.map (fun x : Str × Pos => Expr.Name x.1 x.2) xs).head?.map (·.pos.line)).getD 0 = ln
      have key : ∀ ys : List (Str × Pos), ((ys.map fun x : Str × Pos => Expr.Name x.1 x.2).filterMap fun
          | .Name id pos => if (env.kindOf id == some .local && pos.line == ln) = true then some id else none
          | _ => none).length ≤ ys.length ∧ (((ys.map fun x : Str × Pos => Expr.Name x.1 x.2).filterMap fun
          | .Name id pos => if (env.kindOf id == some .local && pos.line == ln) = true then some id else none
          | _ => none).length = ys.length → ((ys.map fun x : Str × Pos => Expr.Name x.1 x.2).filterMap fun
          | .Name id pos => if (env.kindOf id == some .local && pos.line == ln) = true then some id else none
          | _ => none) = ys.map (·.1)) := by
        intro ys
        induction ys with
        | nil => exact ⟨Nat.le_refl _, fun _ => rfl⟩
        | cons y ys ih =>
          rw [List.map_cons, List.filterMap_cons]
          dsimp only
          by_cases hy : (env.kindOf y.1 == some .local && y.2.line == ln) = true
          · rw [if_pos hy]
            dsimp only
            rw [List.length_cons, List.length_cons, List.map_cons]
            exact ⟨Nat.succ_le_succ ih.1, fun e => by rw [ih.2 (Nat.succ.inj e)]⟩
          · rw [if_neg hy]
            dsimp only
            refine ⟨Nat.le_succ_of_le ih.1, fun e => ?_⟩
            rw [List.length_cons] at e
            have := ih.1
            rw [e] at this
            exact absurd this (Nat.not_succ_le_self _)
      split
      · exact .inl rfl
      · rename_i hne
        split
        · exact .inl rfl
        · rw [hc]
          simp only [Bool.false_eq_true, if_false]
          refine .inr ?_
          have h2 := key xs
          simp only [Bool.or_eq_true, bne_iff_ne, ne_eq, not_or, Decidable.not_not, List.length_map] at hne
          show (pure (some _) : Sem _) = _
          exact congrArg (fun z => (pure (some z) : Sem (Option (List Str)))) (h2.2 hne.1)

theorem exec_tuple {xs : List (Str × Pos)} {es : List Expr} {k k' : Nat} {p p' pos : Pos} {Q : Flow → Shared → Prop} (hL : Lv n A) (hE : EnvOk sc env) (hc : es.all (constantsAlone 8) = false)
    (ht : ∀ env, backTo p' (starEach es env) = es.map fun e => (false, eval e env)) (hst : ∀ x ∈ xs, Stor sc x.1) (hnd : (xs.map (·.1)).Nodup) (hlen : es.length ≤ 100)
    (h : wpAny (model prog w) A (spliced (es.map fun e => (false, eval e env))) (fun vs s₁ => ∃ P' Γ₀ M' bs, vs.length = es.length ∧ St A D g sc env P' Γ₀ M' s₁ ∧ Helds g P' s₁.heap vs bs ∧ bs.map (·.name) = xs.map (·.1) ∧ (∀ b ∈ bs, ∀ c ∈ Γ₀, c.name ≠ b.name) ∧
      ∀ s', (∀ Γ' : List Bnd, (∀ b ∈ Γ', b ∈ bs ∨ b ∈ Γ₀) → St A D g sc env P' Γ' M' s') → Chx (Own sc env) s₁ s' → Q .next s') E s) :
    wpAny (model prog w) A (exec (.Assign [.Tuple (xs.map fun x => .Name x.1 x.2) k p] (.Tuple es k' p') pos) env) Q E s := by
  have hlenb : ∀ {vs : List Value} {bs : List Bnd} {P' : Addr → Prop} {h : Heap}, Helds g P' h vs bs → vs.length = bs.length := by
    intro vs
    induction vs with
    | nil => intro bs P' h q; cases bs with
      | nil => rfl
      | cons => exact q.elim
    | cons v vs ih => intro bs P' h q; cases bs with
      | nil => exact q.elim
      | cons b bs => rw [List.length_cons, List.length_cons, ih q.2]
  -- the tuple made, and taken apart again
  have mk : ∀ (Q' : Value → Shared → Prop), (∀ T vs s₂, (∃ s₁ P' Γ₀ M' bs, vs.length = es.length ∧ St A D g sc env P' Γ₀ M' s₁ ∧ Helds g P' s₁.heap vs bs ∧ bs.map (·.name) = xs.map (·.1) ∧ (∀ b ∈ bs, ∀ c ∈ Γ₀, c.name ≠ b.name) ∧
      (∀ s', (∀ Γ' : List Bnd, (∀ b ∈ Γ', b ∈ bs ∨ b ∈ Γ₀) → St A D g sc env P' Γ' M' s') → Chx (Own sc env) s₁ s' → Q .next s') ∧ Keeps s₁ s₂) → s₂.heap.IsTuple T vs.toArray → Q' (.ref T) s₂) →
      wpAny (model prog w) A (eval (.Tuple es k' p') env) Q' E s := by
    intro Q' hq
    refine wpAny_Tuple_spliced ?_
    rw [ht]
    refine wpAny_mono h (fun vs s₁ q => ?_) fun _ _ e => e
    obtain ⟨P', Γ₀, M', bs, hl, t, hh, hb, hd, hk⟩ := q
    refine ⟨by rw [hl, sizeLine_eq]; omega, hq _ vs _ ⟨s₁, P', Γ₀, M', bs, hl, t, hh, hb, hd, hk, ⟨_, s₁.toks, rfl, .of fun b o e => Heap.get?_push_of_some _ e⟩⟩ ⟨_, Heap.get?_push_size _ rfl, rfl, _, rfl⟩⟩
  have noX : ∀ {s₁ s₂ : Shared} {P' Γ₀ M'}, St A D g sc env P' Γ₀ M' s₁ → ∀ b o, P' b → Kd o → s₁.heap.get? b = some o → ¬ (fun _ : Addr => False) b := fun _ _ _ _ _ _ x => x
  have names_ok : ∀ {bs : List Bnd}, bs.map (·.name) = xs.map (·.1) → (∀ b ∈ bs, Stor sc b.name) ∧ (bs.map (·.name)).Nodup := fun {bs} hb => ⟨fun b m => by
    have : b.name ∈ xs.map (·.1) := hb ▸ List.mem_map_of_mem m
    obtain ⟨x, hx, e⟩ := List.mem_map.mp this
    exact e ▸ hst x hx, hb ▸ hnd⟩
  have hs : swapsWithSole [.Tuple (xs.map fun x => .Name x.1 x.2) k p] (.Tuple es k' p') pos.line env = pure false := rfl
  rcases swapped_names (xs := xs) (vs := es) (k := k) (k' := k') (p := p) (p' := p') hE.kind hc with hw | hw
  · refine PyProof.Rows.Assign_Tuple (mk _ fun T vs s₂ hx hT => ?_) hs hw
    obtain ⟨s₁, P', Γ₀, M', bs, hl, t, hh, hb, hd, hk, k₂⟩ := hx
    have hxs : (assignEach (xs.map fun x => Expr.Name x.1 x.2) env) = xs.map fun x => (false, assign (.Name x.1 x.2) env) := by
      clear h hw hst hnd mk names_ok hb hs
      induction xs with
      | nil => rfl
      | cons x xs ih => rw [List.map_cons, List.map_cons, ← ih]; rfl
    have hln : xs.length = vs.length := by rw [hlenb hh, ← List.length_map (f := fun b : Bnd => b.name), hb, List.length_map]
    refine wpAny_assign_Tuple hL.1 hT (by rw [hxs, List.length_map, List.size_toArray, hln]) (by rw [hxs]; clear hxs h hw hst hnd mk names_ok hb hs hln; induction xs with | nil => rfl | cons x xs ih => rw [List.map_cons, List.findIdx?_cons]; simp [ih]) fun h' he => ?_
    have k₃ : Keeps s₁ { s₂ with heap := h' } := keeps_trans k₂ ⟨h', s₂.toks, rfl, fun b o e => .of (he b o (Nat.ne_of_lt (Heap.lt_size e)) e)⟩
    have := names_ok hb
    rw [hxs, List.map_map]
    refine wpAny_mono (stores_ok (bs := bs) (vs := vs) hE (t.keeps k₃) (hh.ch (Chx.keeps (X := fun _ => False) k₃) fun _ _ _ _ _ => id) this.1 this.2 hd ⟨?_, fun i f b h1 h2 v s' Q' E' hq => ?_⟩) (fun _ s' q => hk s' q.1 ((Chx.keeps k₃).trans q.2)) fun _ _ e => e
    · rw [List.length_map, hln, hlenb hh]
    · rw [List.getElem?_map] at h1
      cases e : xs[i]? with
      | none => rw [e] at h1; cases h1
      | some x =>
        rw [e] at h1
        cases h1
        have e2 : (bs.map (·.name))[i]? = some b.name := by rw [List.getElem?_map, h2]; rfl
        rw [hb, List.getElem?_map, e] at e2
        have e3 := Option.some.inj e2
        rw [← e3] at hq
        exact wpAny_assign_Name hq
  · refine PyProof.Rows.Assign_Tuple_swapped (mk _ fun T vs s₂ hx hT => ?_) hs hw
    obtain ⟨s₁, P', Γ₀, M', bs, hl, t, hh, hb, hd, hk, k₂⟩ := hx
    have hln : xs.length = vs.length := by rw [hlenb hh, ← List.length_map (f := fun b : Bnd => b.name), hb, List.length_map]
    have e0 : (xs.map (·.1)).length = vs.toArray.size := by rw [List.length_map, List.size_toArray, hln]
    rw [e0]
    refine wpAny_unpackItems_tuple hL.1 hT fun h' he => ?_
    have k₃ : Keeps s₁ { s₂ with heap := h' } := keeps_trans k₂ ⟨h', s₂.toks, rfl, fun b o e => .of (he b o (Nat.ne_of_lt (Heap.lt_size e)) e)⟩
    have := names_ok hb
    have hnr : (bs.reverse.map (·.name)).Nodup := by rw [List.map_reverse]; unfold List.Nodup; rw [List.pairwise_reverse]; exact this.2.imp Ne.symm
    refine wpAny_mono (stores_ok (bs := bs.reverse) (vs := vs.reverse) hE (t.keeps k₃) (helds_reverse (hh.ch (Chx.keeps (X := fun _ => False) k₃) fun _ _ _ _ _ => id)) (fun b m => this.1 b (List.mem_reverse.mp m)) hnr (fun b m => hd b (List.mem_reverse.mp m)) ⟨?_, fun i f b h1 h2 v s' Q' E' hq => ?_⟩)
      (fun _ s' q => hk s' (fun Γ' h => q.1 Γ' fun b m => (h b m).imp List.mem_reverse.mpr id) ((Chx.keeps k₃).trans q.2)) fun _ _ e => e
    · rw [List.length_map, List.length_reverse, List.length_map, List.length_reverse, hln, hlenb hh]
    · have e2 : (bs.reverse.map (·.name))[i]? = some b.name := by rw [List.getElem?_map, h2]; rfl
      rw [List.map_reverse, hb] at e2
      rw [List.getElem?_map, e2] at h1
      cases h1
      exact wpAny_bindName hq
end
end Mine
end

section
open PySem PySem.W
set_option Elab.async false
set_option linter.unusedVariables false
set_option linter.unusedSectionVars false
namespace Mine
variable [Lim]
section
variable {prog : Program} {w : World} {D : Wd} {g : Heap} {sc sc' : Scope} {env : Env} {P : Addr → Prop} {Γ Γ' Γ'' Γc Θ : List Bnd} {M M' M'' : List Mu} {n : Nat} {A : Around} {α β γ : Type} {r : Rel α} {r' : Rel β} {s : Shared} {E : Value → Shared → Prop}

theorem St.iterStep {I : Addr} {xs : List α} {s' : Shared} (t : St A D g sc env P Γ M s) (it : ItAt r g P s.heap I xs) (hgI : g.get? I = none) (hPI : P I) (c : Chx (fun b => b = I) s s') : St A D g sc env P Γ M s' := by
  obtain ⟨⟨h', tk, rfl⟩, cc⟩ := c
  have ne : ∀ b, b ≠ I → ∀ o, s.heap.get? b = some o → Kept h' b o := fun b hb o e => cc b o hb e
  obtain ⟨m₀, hm₀⟩ := t.fm.ns
  have hI := t.itNotMine it
  have own_ne : ∀ b, Own sc env b → b ≠ I := fun b o q => hI (.inl (q ▸ o))
  refine t.step (X := fun b => b = I) (fun b x => x ▸ hgI) (fun b o x p kd e => ?_) (fun b o x e => ne b x o e) (fun b x np => absurd (x ▸ hPI) np) (fun L m' x np _ => absurd (x ▸ hPI) np) ⟨⟨m₀, Kept.ns hm₀ fun o e => ne _ (own_ne _ (.inl rfl)) o e⟩, fun x c hx hc => ?_⟩ (fun b hb => ?_) (fun m hm => ?_) t.dist
  · obtain ⟨o', vs, ho', hd', nk⟩ := it.obj
    rw [x, ho'] at e; cases e; exact nk kd
  · obtain ⟨v, hv⟩ := t.fm.cells x c hx hc
    exact ⟨v, Kept.cell hv fun o ho => ne c (own_ne c (.inr ⟨x, hx, hc⟩)) o ho⟩
  · obtain ⟨v, a, q⟩ := t.vars b hb
    refine ⟨v, ?_, q⟩
    rcases a with ⟨hk, m, hm, hv⟩ | ⟨hk, c', hcc, o, ho, hd⟩
    · exact .inl ⟨hk, m, Kept.ns hm fun o e => ne _ (own_ne _ (.inl rfl)) o e, hv⟩
    · refine .inr ⟨hk, c', hcc, Kept.cell ⟨o, ho, hd⟩ fun o₂ ho₂ => ne c' (fun q => ?_) o₂ ho₂⟩
      obtain ⟨o', vs, ho', hd', _⟩ := it.obj
      rw [q, ho'] at ho; cases ho; rw [hd'] at hd; cases hd
  · obtain ⟨a, b, c', items, ⟨o, ho⟩, hp⟩ := t.mus m hm
    refine ⟨a, b, c', items, Kept.plain ⟨o, ho⟩ fun o₂ ho₂ => ne _ (fun q => ?_) _ ho₂, hp⟩
    obtain ⟨o', vs, ho', hd', _⟩ := it.obj
    rw [q, ho'] at ho; cases ho; cases hd'

/-- where a for's items come from -/
noncomputable def Src (prog : Program) (w : World) (D : Wd) (n : Nat) (sc : Scope) (Γ : List Bnd) (P : Addr → Prop) (iter : Expr) (r : Rel α) (xs : List α) : Prop :=
  ∀ A env s (E : Value → Shared → Prop), Lv n A → EnvOk sc env → D.Ok s.heap → Free A P s.heap → Vars P s.heap env Γ →
    wpAny (model prog w) A (eval iter env) (fun v s₁ => Keeps s s₁ ∧ ∀ (g : Heap) A (Q : Value → Shared → Prop) (E : Value → Shared → Prop),
      (∀ I s₂, Keeps s₁ s₂ → I = s₁.heap.objs.size → ItAt r g P s₂.heap I xs → Q (.ref I) s₂) → wpAny (model prog w) A (pyIter v) Q E s₁) E s
theorem Src.list {iter : Expr} {xs : List α} (sr : Solid r) (h : Ev prog w D n sc Γ P iter (rList r) xs) : Src prog w D n sc Γ P iter r xs :=
  fun A env s E hL hE hW hF hV => wpAny_mono (h A env s E hL hE hW hF hV) (fun v s₁ q => ⟨q.1, fun g A Q E hQ => iter_solid sr q.2 hQ⟩) fun _ _ e => e
noncomputable def rRange : Rel (List Int) :=
  ⟨fun P h v xs => ∃ ra a b t u v', v = .ref ra ∧ IsRange h ra a b 1 t u v' ∧ Builtin.Range.small a b 1 = true ∧ Builtin.Range.rangeSize a b 1 = (xs.length : Int) ∧
      ∀ (j : Nat) y, xs[j]? = some y → y = a + (j : Int),
   fun {P P' h h' v x} p k e => by obtain ⟨ra, a, b, t, u, v', e1, e2, e3⟩ := e; exact ⟨ra, a, b, t, u, v', e1, k.get e2 (not_fra fun _ _ z => by cases z), e3⟩⟩
theorem Src.range {iter : Expr} {xs : List Int} (h : Ev prog w D n sc Γ P iter rRange xs) : Src prog w D n sc Γ P iter rInt xs :=
  fun A env s E hL hE hW hF hV => wpAny_mono (h A env s E hL hE hW hF hV) (fun v s₁ q => ⟨q.1, fun g A Q E hQ => by
    obtain ⟨_, ra, a, b, t, u, v', e1, e2, e3, e4, e5⟩ := q
    exact iter_range (r := rInt) e1 e2 e3 e4 (fun j y hy t P' h' => ⟨t, by rw [e5 j y hy]⟩) hQ⟩) fun _ _ e => e
theorem Ev.rseq {iter : Expr} {xs : List Int} (h : Ev prog w D n sc Γ P iter rRange xs) : Ev prog w D n sc Γ P iter (rSeq rInt) xs :=
  fun A env s E hL hE hW hF hV => wpAny_mono (h A env s E hL hE hW hF hV) (fun v s₁ q => ⟨q.1, by
    obtain ⟨_, ra, a, b, t, u, v', e1, e2, e3, e4, e5⟩ := q
    exact .inr ⟨ra, a, b, t, u, v', e1, e2, e3, e4, fun j y hy t P' h' => ⟨t, by rw [e5 j y hy]⟩⟩⟩) fun _ _ e => e
theorem Ev.range1 {e : Expr} {k : Int} {p pos : Pos} (he : Ev prog w D n sc Γ P e rInt k) (h0 : 0 ≤ k) (hk : k ≤ 2 ^ 31) (hx : sc.names.lookup ("range" : Str) = some .globalImplicit := by decide)
    (ht : ∀ env, backTo pos (starEach [e] env) = [(false, eval e env)] := by intro _; rfl) : Ev prog w D n sc Γ P (.Call (.Name "range" p) [e] [] pos) rRange (rng 0 k.toNat) := by
  refine Ev.callT (id := "range") (by decide) he (fun A s E v hL hW hF hv => ?_) hx (by decide) ht
  obtain ⟨t, rfl⟩ := hv
  refine call_range_1 ⟨⟨_, _, rfl, .of fun b o e => Heap.get?_push_of_some _ e⟩, _, _, _, _, _, _, rfl, IsRange.new .., small_of (by omega) hk (by omega) (by omega), ?_, fun j y hy => ?_⟩
  · rw [rangeSize_one]; unfold rng; rw [List.length_map, List.length_range]
    split <;> omega
  · exact rng_get _ _ _ _ hy
theorem Ev.range2 {e₁ e₂ : Expr} {a b : Int} {p pos : Pos} (h₁ : Ev prog w D n sc Γ P e₁ rInt a) (h₂ : Ev prog w D n sc Γ P e₂ rInt b) (ha : -(2 ^ 31) ≤ a) (hb : b ≤ 2 ^ 31) (ha' : a ≤ 2 ^ 31) (hb' : -(2 ^ 31) ≤ b)
    (hx : sc.names.lookup ("range" : Str) = some .globalImplicit := by decide)
    (ht : ∀ env, backTo pos (starEach [e₁, e₂] env) = [(false, eval e₁ env), (false, eval e₂ env)] := by intro _; rfl) : Ev prog w D n sc Γ P (.Call (.Name "range" p) [e₁, e₂] [] pos) rRange (rng a (b - a).toNat) := by
  intro A env s E hL hE hW hF hV
  refine PyProof.Rows.Call_Name (ht env) (wpAny_mono (Ev.bi (pos := p) (v := .type "range") (by decide) hx (by decide) A env s E hL hE hW hF hV) (fun v s₁ h => ?_) fun _ _ e => e)
  obtain ⟨k, rfl⟩ := h
  have k₁ := keeps_keep k
  refine PyProof.Rows.callWith_type rfl (Calls.evalArgs_plain (Calls.spliced_cons (wpAny_mono (h₁ A env s₁ E hL hE (hW.keep k₁) (hF.keep k₁) (hV.keep k₁)) (fun u s₂ q₁ => ?_) fun _ _ e => e)))
  have k₂ := k₁.trans (keeps_keep q₁.1)
  refine Calls.spliced_cons (wpAny_mono (h₂ A env s₂ E hL hE (hW.keep k₂) (hF.keep k₂) (hV.keep k₂)) (fun u' s₃ q₂ => Calls.spliced_nil ?_) fun _ _ e => e)
  obtain ⟨kk₁, t, rfl⟩ := q₁
  obtain ⟨kk₂, t', rfl⟩ := q₂
  refine call_range_2 ⟨keeps_trans k (keeps_trans kk₁ (keeps_trans kk₂ ⟨_, _, rfl, .of fun b o e => Heap.get?_push_of_some _ e⟩)), _, _, _, _, _, _, rfl, IsRange.new .., small_of ha hb ha' hb', ?_, fun j y hy => ?_⟩
  · rw [rangeSize_one]; unfold rng; rw [List.length_map, List.length_range]
    split <;> omega
  · exact rng_get _ _ _ _ hy

theorem Ex.for {target iter : Expr} {body : List Stmt} {pos : Pos} {xs : List α} {Δ : α → List Bnd} {Γi : Nat → List Bnd} {Mi : Nat → List Mu} (hs : Seen Γ (Mi 0) Θ) (hit : Src prog w D n sc Θ P iter r xs)
    (h0 : ∀ b ∈ Γi 0, b ∈ Γ) (hΔ : ∀ i, Tgt prog w D sc (Γi i) target r Δ) (hm : ∀ i, (Mi i).map (·.a) = (Mi 0).map (·.a))
    (hbody : ∀ (i : Nat) x, xs[i]? = some x → ExS prog w D n sc P (Δ x ++ Γi i) (Mi i) body (Γi (i + 1)) (Mi (i + 1)))
    (hf : ∀ env x, foldedSetIterable iter env x = pure x := by intro _ _; rfl) :
    Ex prog w D n sc P Γ (Mi 0) (.For target iter body [] pos) (Γi xs.length) (Mi xs.length) := by
  intro A g env s E hL hE t
  refine wpAny_For (wpAny_mono (hit A env s E hL hE t.world t.free (t.seen hs)) (fun v s₁ q => ?_) fun _ _ e => e) (hf env)
  obtain ⟨k₁, hq⟩ := q
  refine hq g A _ _ fun I s₂ k₂ hI it => ?_
  have t₁ := t.keeps k₁
  have t₂ := t₁.keeps k₂
  have hnew : s₁.heap.get? I = none := hI ▸ get_size _
  have hgI : g.get? I = none := by
    cases q : g.get? I with
    | none => rfl
    | some o => obtain ⟨o2, this⟩ := (t₁.keep I o q).alive; rw [hnew] at this; cases this
  have hPI : P I := hI ▸ t₁.free.new
  have mnsE : ∀ i b, Mns sc env (Mi i) b → Mns sc env (Mi 0) b := fun i b x => x.imp id fun ⟨m, hm', e⟩ => by
    have : b ∈ (Mi i).map (·.a) := e ▸ List.mem_map_of_mem hm'
    rw [hm] at this
    obtain ⟨m', h1, h2⟩ := List.mem_map.mp this
    exact ⟨m', h1, h2⟩
  refine codeAny_forLoop_any (fun k s' => ∃ i, i ≤ xs.length ∧ k = xs.length - i ∧ St A D g sc env P (Γi i) (Mi i) s' ∧ ItAt r g P s'.heap I (xs.drop i) ∧ Chx (fun b => Mns sc env (Mi 0) b ∨ b = I) s₂ s') ?_ xs.length
    ⟨0, Nat.zero_le _, rfl, t₂.sub h0, it, Chx.refl s₂⟩
  rintro k s₃ ⟨i, hi, rfl, t₃, it₃, c₃⟩
  refine ItAt.next (r := r) (g := g) (P := P) hL.1 it₃ (fun hnil h' he => ?_) fun x ys hys v h' tk c hv it₄ => ?_
  · have : i = xs.length := by
      have := List.drop_eq_nil_iff.mp hnil
      omega
    subst this
    refine wpAny_execs_nil ⟨rfl, ?_, ?_⟩
    · exact t₃.iterStep it₃ hgI hPI ⟨⟨h', s₃.toks, rfl⟩, fun b o hb e => .of (he b o hb e)⟩
    · refine Chx.fresh (Y := fun b => Mns sc env (Mi 0) b ∨ b = I) (((Chx.keeps k₁).trans (Chx.keeps k₂)).trans (c₃.trans ⟨⟨h', s₃.toks, rfl⟩, fun b o hb e => .of (he b o (fun q => hb (.inr q)) e)⟩)) fun b o y e => ?_
      rcases y with y | y
      · exact y
      · rw [y] at e; obtain ⟨o2, this⟩ := (keeps_keep k₁ _ _ e).alive; rw [hnew] at this; cases this
  · have hlt : i < xs.length := by
      rcases Nat.lt_or_ge i xs.length with h | h
      · exact h
      · rw [List.drop_eq_nil_of_le h] at hys; cases hys
    have hx : xs[i]? = some x := by
      have := congrArg (·[0]?) hys
      simpa [List.getElem?_drop] using this
    have hdrop : xs.drop (i + 1) = ys := by
      rw [List.drop_eq_getElem_cons hlt] at hys
      injection hys
    have t₄ := t₃.iterStep it₃ hgI hPI c
    have hI₄ := t₄.itNotMine it₄
    have hXI : ∀ b, (P b ∨ ∃ o, g.get? b = some o) → ¬ Mns sc env (Mi i) b := fun b h => t₄.notMine h
    refine letgo_ok it₄ (wpAny_mono (hΔ i g env P (Mi i) A n x v _ _ hL hE t₄ hv) (fun _ s₅ q => ?_) fun _ _ e => e)
    obtain ⟨t₅, c₅⟩ := q
    have c₅' : Chx (Mns sc env (Mi i)) _ _ := chx_own c₅
    have it₅ := it₄.ch c₅' hI₄ hXI
    refine wpAny_mono (hbody i x hx A g env s₅ _ hL hE t₅) (fun f s₆ q => ?_) fun _ _ e => e
    obtain ⟨rfl, t₆, c₆⟩ := q
    have it₆ := it₅.ch c₆ hI₄ hXI
    refine ⟨xs.length - (i + 1), by omega, i + 1, hlt, rfl, t₆, by rw [hdrop]; exact it₆, ?_⟩
    exact c₃.trans ((c.mono fun b h => .inr h).trans ((c₅'.mono fun b h => .inl (mnsE i b h)).trans (c₆.mono fun b h => .inl (mnsE i b h))))
end
end Mine
end

section
open PySem PySem.W
set_option Elab.async false
set_option linter.unusedVariables false
set_option linter.unusedSectionVars false
namespace Mine
variable [Lim]
section
variable {prog : Program} {w : World} {D : Wd} {g : Heap} {sc sc' : Scope} {env : Env} {P : Addr → Prop} {Γ Γ' Γ'' Γc Θ : List Bnd} {M M' M'' M₁ M₂ : List Mu} {n : Nat} {A : Around} {α β γ : Type} {r : Rel α} {r' : Rel β} {s : Shared} {E : Value → Shared → Prop}

theorem not_interactive (hE : EnvOk sc env) : interactive env = false := by unfold interactive; rw [hE.kind]; rfl

theorem Ex.append {o e : Expr} {apos pos spos : Pos} {m : Mu} {y : m.α} (hM : M = M₁ ++ m :: M₂) (hs : Seen Γ M Θ) (ho : Ev prog w D n sc Θ P o rAddr m.a) (he : Ev prog w D n sc Θ P e m.r y) (hsz : m.xs.length ≤ sizeLine)
    (hΓ : ∀ b ∈ Γ', b ∈ Γ) (hbase : ∀ env, attributeBase o "append" env (eval o env) = eval o env := by intro _; rfl) (hline : (apos.endLine == pos.line) = true := by rfl)
    (ht : ∀ env, backTo pos (starEach [e] env) = [(false, eval e env)] := by intro _; rfl)
    (hw : ∀ env, swapsWith (.Call (.Attribute o "append" apos) [e] [] pos) none spos.line env = pure false := by intro _; rfl) :
    Ex prog w D n sc P Γ M (.Expr (.Call (.Attribute o "append" apos) [e] [] pos) spos) Γ' (M₁ ++ ⟨m.a, m.r, m.xs ++ [y]⟩ :: M₂) := by
  intro A g env s E hL hE t
  refine wpAny_Expr_any (wpAny_Call_append (hbase env) (by rw [ht env]; rfl) hline (ht env) (wpAny_mono (ho A env s E hL hE t.world t.free (t.seen hs)) (fun v s₁ h₁ => ?_) fun _ _ e => e)) (not_interactive hE) (hw env)
  obtain ⟨k₁, hv⟩ := h₁
  have hv' : v = .ref m.a := hv
  subst hv'
  have t₁ := t.keeps k₁
  obtain ⟨_, _, _, items, ⟨nn, hl⟩, hp⟩ := t₁.mus m (by rw [hM]; simp)
  refine ⟨m.a, items, rfl, ⟨_, nn, hl, rfl, rfl, rfl⟩, wpAny_mono (he A env s₁ E hL hE t₁.world t₁.free (t₁.seen hs)) (fun u s₂ h₂ => ?_) fun _ _ e => e⟩
  have t₂ := t₁.keeps h₂.1
  obtain ⟨_, _, _, items, hl, hp⟩ := t₂.mus m (by rw [hM]; simp)
  have nl : items.size = m.xs.length := by have := hp.length; simpa using this
  refine wpAny_list_append_plain hl (fun h' hl' hss => ⟨rfl, ?_, ?_⟩) (by rw [nl]; exact hsz)
  · exact (t₂.mutate (tk := s₂.toks) hM hss hl' (by simpa using paired_append hp (.cons h₂.2 .nil))).sub hΓ
  · exact ((Chx.keeps k₁).trans (Chx.keeps h₂.1)).trans ⟨⟨h', s₂.toks, rfl⟩, fun b o x e => .of ((hss.2 b fun q => x (.inr ⟨m, by rw [hM]; simp, q.symm⟩)).trans e)⟩

theorem Ex.setItem {o i e : Expr} {p pos : Pos} {m : Mu} {y : m.α} {k : Int} (hM : M = M₁ ++ m :: M₂) (hs : Seen Γ M Θ) (he : Ev prog w D n sc Θ P e m.r y) (ho : Ev prog w D n sc Θ P o rAddr m.a) (hi : Ev prog w D n sc Θ P i rInt k)
    (h0 : 0 ≤ k) (hk : k < 2 ^ 63) (hn : k < m.xs.length) (hΓ : ∀ b ∈ Γ', b ∈ Γ) (hw : ∀ env, swapsWith e (some (.Subscript o i p)) pos.line env = pure false := by intro _; rfl) :
    Ex prog w D n sc P Γ M (.Assign [.Subscript o i p] e pos) Γ' (M₁ ++ ⟨m.a, m.r, m.xs.set k.toNat y⟩ :: M₂) := by
  intro A g env s E hL hE t
  refine wpAny_Assign_Subscript (wpAny_mono (he A env s E hL hE t.world t.free (t.seen hs)) (fun v s₁ h₁ => ?_) fun _ _ e => e) (hw env)
  have t₁ := t.keeps h₁.1
  refine wpAny_mono (ho A env s₁ E hL hE t₁.world t₁.free (t₁.seen hs)) (fun u s₂ h₂ => ?_) fun _ _ e => e
  have t₂ := t₁.keeps h₂.1
  obtain ⟨k₂, hu⟩ := h₂
  have hu' : u = .ref m.a := hu
  subst hu'
  refine wpAny_mono (hi A env s₂ E hL hE t₂.world t₂.free (t₂.seen hs)) (fun j s₃ h₃ => ?_) fun _ _ e => e
  have t₃ := t₂.keeps h₃.1
  obtain ⟨k₃, tk, rfl⟩ := h₃
  obtain ⟨_, _, _, items, ⟨nn, hl⟩, hp⟩ := t₃.mus m (by rw [hM]; simp)
  have nl : items.size = m.xs.length := by have := hp.length; simpa using this
  have hv := m.r.keep (keeps_keep k₃) (m.r.keep (keeps_keep k₂) h₁.2)
  have hup : Heap.SameBut m.a s₃.heap (s₃.heap.update m.a (Obj.mapSeq (·.setIfInBounds k.toNat v))) := Heap.SameBut.update ..
  refine ki_setAt hl h0 hk (by rw [nl]; exact hn) ⟨rfl, ?_, ?_⟩
  · refine (t₃.mutate (tk := s₃.toks) (items := items.setIfInBounds k.toNat v) hM hup ?_ ?_).sub hΓ
    · refine ⟨_, Heap.get?_update_self _ hl ?_⟩
      rfl
    · rw [Array.toList_setIfInBounds]; exact paired_set hv _ hp
  · exact ((Chx.keeps h₁.1).trans ((Chx.keeps k₂).trans (Chx.keeps k₃))).trans ⟨⟨_, s₃.toks, rfl⟩, fun b o x e => .of ((hup.2 b fun q => x (.inr ⟨m, by rw [hM]; simp, q.symm⟩)).trans e)⟩

theorem Ex.ifB {test : Expr} {body orelse : List Stmt} {pos : Pos} {b : Bool} (hs : Seen Γ M Θ) (ht : Et prog w D n sc Θ P test b) (hb : b = true → ExS prog w D n sc P Γ M body Γ' M') (ho : b = false → ExS prog w D n sc P Γ M orelse Γ' M') :
    Ex prog w D n sc P Γ M (.If test body orelse pos) Γ' M' := by
  intro A g env s E hL hE t
  refine wpAny_If (wpAny_mono (ht A env s E hL hE t.world t.free (t.seen hs)) (fun c s₁ q => ?_) fun _ _ e => e)
  obtain ⟨k, rfl⟩ := q
  have t₁ := t.keeps k
  cases c with
  | true => simp only [if_true]; exact wpAny_mono (hb rfl A g env s₁ E hL hE t₁) (fun f s₂ q => ⟨q.1, q.2.1, (Chx.keeps k).trans q.2.2⟩) fun _ _ e => e
  | false => simp only [Bool.false_eq_true, if_false]; exact wpAny_mono (ho rfl A g env s₁ E hL hE t₁) (fun f s₂ q => ⟨q.1, q.2.1, (Chx.keeps k).trans q.2.2⟩) fun _ _ e => e

/-- an if whose test is known not to hold, its body of no concern -/
theorem Ex.ifNot {test : Expr} {body : List Stmt} {pos : Pos} (hs : Seen Γ M Θ) (ht : Et prog w D n sc Θ P test false) : Ex prog w D n sc P Γ M (.If test body [] pos) Γ M :=
  Ex.ifB hs ht (fun h => by cases h) fun _ => ExS.nil fun b hb => hb

theorem ret_ev {e : Expr} {pos : Pos} {rest : List Stmt} {y : α} {Q : Flow → Shared → Prop} (hL : Lv n A) (hE : EnvOk sc env) (t : St A D g sc env P Γ M s) (hs : Seen Γ M Θ) (he : Ev prog w D n sc Θ P e r y)
    (h : ∀ v s', Keeps s s' → St A D g sc env P Γ M s' → r.is P s'.heap v y → Q (.ret v) s') : wpAny (model prog w) A (execs (.Return (some e) pos :: rest) env) Q E s :=
  wpAny_execs_cons (wpAny_Return_some (wpAny_mono (he A env s E hL hE t.world t.free (t.seen hs)) (fun v s₁ q => h v s₁ q.1 (t.keeps q.1) q.2) fun _ _ e => e))

/-- a while: `b` its test, `next` what a turn makes -/
theorem Ex.while {σ : Type} {test : Expr} {body : List Stmt} {pos : Pos} (Γf : σ → List Bnd) (b : σ → Bool) (next : σ → σ) (μ : σ → Nat) (I : σ → Prop) {x₀ : σ}
    (hI : I x₀) (h0 : ∀ c ∈ Γf x₀, c ∈ Γ) (ht : ∀ x, I x → Et prog w D n sc (Γf x) P test (b x))
    (hbody : ∀ x, I x → b x = true → ExS prog w D n sc P (Γf x) M body (Γf (next x)) M ∧ I (next x) ∧ μ (next x) < μ x) (hend : ∀ x, I x → b x = false → ∀ c ∈ Γ', c ∈ Γf x) :
    Ex prog w D n sc P Γ M (.While test body [] pos) Γ' M := by
  intro A g env s E hL hE t
  refine wpAny_While (codeAny_whileLoop (fun k s' => ∃ x, k = μ x ∧ I x ∧ St A D g sc env P (Γf x) M s' ∧ Chx (Mns sc env M) s s') ?_ (μ x₀) ⟨x₀, rfl, hI, t.sub h0, Chx.refl s⟩)
  rintro k s₁ ⟨x, rfl, hx, t₁, c₁⟩
  refine wpAny_mono (ht x hx A env s₁ _ hL hE t₁.world t₁.free t₁.toVars) (fun c s₂ q => ?_) fun _ _ e => e
  obtain ⟨k₂, rfl⟩ := q
  have t₂ := t₁.keeps k₂
  cases hb : b x with
  | true =>
    simp only [if_true]
    obtain ⟨h1, h2, h3⟩ := hbody x hx hb
    refine wpAny_mono (h1 A g env s₂ _ hL hE t₂) (fun f s₃ q => ?_) fun _ _ e => e
    obtain ⟨rfl, t₃, c₃⟩ := q
    exact ⟨μ (next x), h3, next x, rfl, h2, t₃, c₁.trans ((Chx.keeps k₂).trans c₃)⟩
  | false =>
    simp only [Bool.false_eq_true, if_false]
    exact wpAny_execs_nil ⟨rfl, t₂.sub (hend x hx hb), c₁.trans (Chx.keeps k₂)⟩
end
end Mine
end

section
open PySem PySem.W
set_option Elab.async false
set_option linter.unusedVariables false
set_option linter.unusedSectionVars false
namespace Mine
variable [Lim]

theorem bindL_other (kf : Str → Option NameKind) : ∀ (binds : List (Str × Value)) (m : Str → Option Value) (x : Str), x ∉ binds.map (·.1) → bindL kf binds m x = m x
  | [], m, x, _ => rfl
  | (y, v) :: r, m, x, h => by
    rw [List.map_cons, List.mem_cons, not_or] at h
    rw [bindL, bindL_other kf r _ x h.2]
    split
    · exact if_neg h.1
    · rfl
theorem bindC_other (kf : Str → Option NameKind) : ∀ (binds : List (Str × Value)) (m : Str → Option Value) (x : Str), x ∉ binds.map (·.1) → bindC kf binds m x = m x
  | [], m, x, _ => rfl
  | (y, v) :: r, m, x, h => by
    rw [List.map_cons, List.mem_cons, not_or] at h
    rw [bindC, bindC_other kf r _ x h.2]
    split
    · rfl
    · exact if_neg h.1
theorem bindL_mem (kf : Str → Option NameKind) : ∀ (binds : List (Str × Value)) (m : Str → Option Value) (x : Str) (v : Value), (binds.map (·.1)).Nodup → (x, v) ∈ binds → kf x = some .local → bindL kf binds m x = some v
  | [], m, x, v, _, h, _ => by cases h
  | (y, u) :: r, m, x, v, hn, h, hk => by
    rw [List.map_cons, List.nodup_cons] at hn
    rcases List.mem_cons.mp h with e | h
    · cases e
      rw [bindL, bindL_other kf r _ y hn.1, if_pos hk]; simp
    · rw [bindL]; exact bindL_mem kf r _ x v hn.2 h hk
theorem bindC_mem (kf : Str → Option NameKind) : ∀ (binds : List (Str × Value)) (m : Str → Option Value) (x : Str) (v : Value), (binds.map (·.1)).Nodup → (x, v) ∈ binds → kf x ≠ some .local → bindC kf binds m x = some v
  | [], m, x, v, _, h, _ => by cases h
  | (y, u) :: r, m, x, v, hn, h, hk => by
    rw [List.map_cons, List.nodup_cons] at hn
    rcases List.mem_cons.mp h with e | h
    · cases e
      rw [bindC, bindC_other kf r _ y hn.1, if_neg hk]; simp
    · rw [bindC]; exact bindC_mem kf r _ x v hn.2 h hk

section
variable {prog : Program} {w : World} {D : Wd} {P : Addr → Prop} {Γ : List Bnd} {n : Nat} {A : Around} {α β : Type} {r : Rel α} {s : Shared} {E : Value → Shared → Prop}

structure FnFits (F : Fn) : Prop where
  kind : F.scope.kind = .function
  co : F.scope.isCoroutine = false
  gen : F.scope.isGenerator = false
  nodup : (F.scope.names.map (·.1)).Nodup
  free : ∀ p ∈ F.scope.names, p.2 ≠ NameKind.free

/-- a call of a def: its block in a frame of its own -/
theorem call_fn' {F : Fn} {x : Str} {a : Addr} {vs : List Value} {kw : List (Str × Value)} {binds : List (Str × Value)} {Q : Value → Shared → Prop} (hx : D.fn x = some (a, F)) (ff : FnFits F) (hL : Lv (n + 1) A) (hW : D.Ok s.heap) (hF : Free A P s.heap)
    (hb : F.bind ⟨vs, kw⟩ binds) (hst : ∀ p ∈ binds, Stor F.scope p.1) (hnd : (binds.map (·.1)).Nodup) (hΓ : ∀ b ∈ Γ, ∃ v, (b.name, v) ∈ binds ∧ b.r.is P s.heap v b.x)
    (h : ∀ env s₁ P', (∀ b, P' b → P b) → EnvOk F.scope env → env.frame = some env.locals → St (A.deeper env) D s.heap F.scope env P' Γ [] s₁ → (∃ h tk, s₁ = { s with heap := h, toks := tk }) → (∃ o fd, s.heap.get? a = some o ∧ o.data = .func fd ∧ env.code = fd.code) → (∀ b o, s.heap.get? b = some o → s₁.heap.get? b = some o) → (∀ b o, P b → s.heap.get? b = some o → P' b) →
      wpAny (model prog w) (A.deeper env) (execs F.body env) (fun f s' => match f with | .ret v => Q v s' | _ => False)
        (fun e s' => wpAny (model prog w) (A.deeper env) (leaving env e) (fun _ s'' => E e s'') (fun e' s'' => E e' s'') s') s₁) :
    wpAny (model prog w) A (call (.ref a) vs kw) Q E s := by
  obtain ⟨o, fd, ho, hd, h3, h4, h5, h6, h7, h8, hcd, h10⟩ := (hW.fns x a F hx).ok
  have hbnd := h10 s _ _ Keep.rfl hb
  refine wpAny_call ?_
  refine codeAny_call_function hL.room ho hd (by rw [h5]; exact ff.co) (by rw [h5]; exact ff.gen) h4 hcd (hbnd _ _ _ _ ?_)
  rw [h5, h6, h7, h8]
  obtain ⟨c1, c2, c3, _⟩ := cellsFrom_facts F.scope.names (s.heap.objs.size + 1) [] ff.nodup
  have mem_of : ∀ {y k}, F.scope.names.lookup y = some k → (y, k) ∈ F.scope.names := fun h => mem_of_lookup h
  refine wpAny_newFunctionEnv_cells ff.kind (fun p hp => (hst p hp).imp id fun hc => ⟨hc, ?_⟩) fun env he s₁ ic => ?_
  · obtain ⟨c, _, hcc⟩ := c1 p.1 (mem_of hc)
    rw [hcc]; rfl
  refine ⟨hW.lim.keeps ic.toInCall.keep, codeAny_func ?_⟩
  have hcells : env.cells = cellsFrom (s.heap.objs.size + 1) F.scope.names [] := by rw [he]; rfl
  have hsc : env.scope = F.scope := by rw [he]; rfl
  have hLo : env.locals = s.heap.objs.size := by rw [he]; rfl
  have hkind : ∀ y, env.kindOf y = F.scope.names.lookup y := fun y => by unfold Env.kindOf; rw [hsc]
  have hE : EnvOk F.scope env := by
    refine ⟨by rw [hsc]; exact ff.kind, by rw [he]; rfl, by rw [he]; rfl, fun y hy => by rw [hkind]; exact hy, fun y hy => ?_, fun y hy => absurd rfl (ff.free _ (mem_of hy)), fun y hy => by rw [hkind]; exact hy, fun y z c hy hz => ?_⟩
    · obtain ⟨c, _, hcc⟩ := c1 y (mem_of hy)
      exact ⟨by rw [hkind]; exact hy, c, by rw [hcells]; exact hcc⟩
    · have cm : ∀ {u c}, env.cells.lookup u = some c → (u, NameKind.cell) ∈ F.scope.names := fun {u c} hu => by
        apply Classical.byContradiction
        intro hn
        rw [hcells, c2 u hn] at hu; cases hu
      exact c3 y z c (cm hy) (cm hz) (hcells ▸ hy) (hcells ▸ hz)
  have hown : ∀ b, Own F.scope env b → s.heap.objs.size ≤ b := fun b o => by
    rcases o with rfl | ⟨y, hy, hc⟩
    · exact Nat.le_of_eq hLo.symm
    · obtain ⟨c, h1, h2⟩ := c1 y (mem_of hy)
      rw [hcells, h2] at hc; cases hc
      exact Nat.le_trans (Nat.le_succ _) h1
  have hg : ∀ b, Own F.scope env b → s.heap.get? b = none := fun b o => by
    cases q : s.heap.get? b with
    | none => rfl
    | some o' => exact absurd (Heap.lt_size q) (Nat.not_lt.mpr (hown b o))
  have fm : Fm F.scope env s₁.heap := ⟨⟨_, ic.toInCall.ns⟩, fun y c hy hc => ⟨_, ic.cell y c hc⟩⟩
  have t : St (A.deeper env) D s.heap F.scope env (fun b => P b ∧ ¬ Own F.scope env b) Γ [] s₁ := by
    refine ⟨hW, .of ic.toInCall.keep, fm, hg, fun b o p => p.2 o, ⟨fun b hb => ?_, ?_⟩, fun b hb => ?_, fun m hm => (by cases hm), List.nodup_nil⟩
    · by_cases p : P b
      · have : Own F.scope env b := by
          apply Classical.byContradiction
          intro no; exact hb ⟨p, no⟩
        exact fm.ta this
      · obtain ⟨o', ho', nf⟩ := hF.ta b p
        exact ⟨o', ic.toInCall.keep b o' ho', nf⟩
    · obtain ⟨l, hl, hq⟩ := hF.fr' (P' := fun b => P b ∧ ¬ Own F.scope env b) (fun b z p => z p.1) fun L m _ q => ⟨m, (Keep.of ic.toInCall.keep).ns q⟩
      refine ⟨env :: l, Around.frames_deeper hl, fun e he' => ?_⟩
      rcases List.mem_cons.mp he' with rfl | he'
      · exact ⟨by rw [hsc, ff.kind]; exact fun q => (by cases q), s.heap.objs.size, by rw [he]; rfl, hW.size, fun p => p.2 (.inl hLo.symm), _, hLo ▸ ic.toInCall.ns⟩
      · exact hq e he'
    · obtain ⟨v, hm, hr⟩ := hΓ b hb
      refine ⟨v, ?_, .inl (b.r.weak (fun c o' p e => ⟨p, fun oo => by rw [hg c oo] at e; cases e⟩) hr)⟩
      rcases hst _ hm with hl | hc
      · refine .inl ⟨by rw [hkind]; exact hl, _, ic.toInCall.ns, bindL_mem _ _ _ _ _ hnd hm (by rw [hkind]; exact hl)⟩
      · obtain ⟨c, _, hcc⟩ := c1 b.name (mem_of hc)
        have hcl : env.cells.lookup b.name = some c := by rw [hcells]; exact hcc
        refine .inr ⟨.inl (by rw [hkind]; exact hc), c, hcl, ?_⟩
        have := ic.cell b.name c hcl
        rw [bindC_mem _ _ _ _ _ hnd hm (by rw [hkind, hc]; exact fun q => by cases q)] at this
        exact this
  obtain ⟨h', tk, e, _⟩ := ic.done
  refine wpAny_mono (h env s₁ _ (fun b p => p.1) hE (by rw [he]; rfl) t ⟨h', tk, e⟩ ⟨o, fd, ho, hd, by rw [he]; rfl⟩ (fun b o' e => ic.toInCall.keep b o' e) (fun b o' p e => ⟨p, fun oo => by rw [hg b oo] at e; cases e⟩)) (fun f s' q => ?_) fun _ _ e => e
  cases f <;> first | exact q | exact q.elim
/-- the same, less said -/
theorem call_fn {F : Fn} {x : Str} {a : Addr} {vs : List Value} {kw : List (Str × Value)} {binds : List (Str × Value)} {Q : Value → Shared → Prop} (hx : D.fn x = some (a, F)) (ff : FnFits F) (hL : Lv (n + 1) A) (hW : D.Ok s.heap) (hF : Free A P s.heap)
    (hb : F.bind ⟨vs, kw⟩ binds) (hst : ∀ p ∈ binds, Stor F.scope p.1) (hnd : (binds.map (·.1)).Nodup) (hΓ : ∀ b ∈ Γ, ∃ v, (b.name, v) ∈ binds ∧ b.r.is P s.heap v b.x)
    (h : ∀ env s₁ P', (∀ b, P' b → P b) → EnvOk F.scope env → env.frame = some env.locals → St (A.deeper env) D s.heap F.scope env P' Γ [] s₁ → (∃ h tk, s₁ = { s with heap := h, toks := tk }) →
      wpAny (model prog w) (A.deeper env) (execs F.body env) (fun f s' => match f with | .ret v => Q v s' | _ => False)
        (fun e s' => wpAny (model prog w) (A.deeper env) (leaving env e) (fun _ s'' => E e s'') (fun e' s'' => E e' s'') s') s₁) :
    wpAny (model prog w) A (call (.ref a) vs kw) Q E s :=
  call_fn' hx ff hL hW hF hb hst hnd hΓ fun env s₁ P' h1 h2 h3 h4 h5 _ _ _ => h env s₁ P' h1 h2 h3 h4 h5
end

-- the call's expression
section
variable {prog : Program} {w : World} {D : Wd} {sc : Scope} {env : Env} {P : Addr → Prop} {Γ : List Bnd} {n : Nat} {A : Around} {α β : Type} {r : Rel α} {s : Shared} {E : Value → Shared → Prop}

/-- what a call gives back, for arguments so borne -/
noncomputable def CallsTo (prog : Program) (w : World) (D : Wd) (n : Nat) (P : Addr → Prop) (f : Value) (bs : List Bv) (names : List Str) (ks : List Bv) (r : Rel α) (y : α) : Prop :=
  ∀ A s vs kvs (E : Value → Shared → Prop), Lv n A → D.Ok s.heap → Free A P s.heap → Are P s.heap vs bs → Are P s.heap kvs ks →
    wpAny (model prog w) A (call f vs (names.zip kvs)) (fun v s' => Keeps s s' ∧ r.is P s'.heap v y) E s

theorem evalAll_back {E : Value → Shared → Prop} {pos : Pos} (hL : Lv n A) (hE : EnvOk sc env) : ∀ {es : List Expr} {bs : List Bv} {s : Shared}, EvA prog w D n sc Γ P es bs → D.Ok s.heap → Free A P s.heap → Vars P s.heap env Γ →
    wpAny (model prog w) A (evalAll (es.map fun e => (do let v ← eval e env; standAt pos; pure v))) (fun vs s' => Keeps s s' ∧ Are P s'.heap vs bs) E s
  | [], [], s, _, _, _, _ => wpAny_evalAll_nil ⟨keeps_refl s, .nil⟩
  | [], b :: bs, _, h, _, _, _ => h.elim
  | e :: es, [], _, h, _, _, _ => h.elim
  | e :: es, b :: bs, s, h, hW, hF, hV => by
    refine wpAny_evalAll_cons (wpAny_bind (wpAny_mono (h.1 A env s E hL hE hW hF hV) (fun v s₁ h₁ => wpAny_bind (wpAny_standAt (wpAny_pure ?_))) fun _ _ e => e))
    have k₁ := keeps_keep h₁.1
    exact wpAny_mono (evalAll_back hL hE h.2 (hW.keep k₁) (hF.keep k₁) (hV.keep k₁)) (fun vs s₂ h₂ => ⟨keeps_trans h₁.1 h₂.1, .cons (b.r.keep (keeps_keep h₂.1) h₁.2) h₂.2⟩) fun _ _ e => e

theorem Ev.call {id : Str} {p pos : Pos} {es : List Expr} {keywords : List Keyword} {names : List Str} {kes : List Expr} {bs ks : List Bv} {x : Str} {a : Addr} {F : Fn} {y : α} (hf : Ev prog w D n sc Γ P (.Name id p) rVal (.ref a)) (hx : D.fn x = some (a, F))
    (ha : EvA prog w D n sc Γ P es bs) (hk : EvA prog w D n sc Γ P kes ks) (hc : CallsTo prog w D n P (.ref a) bs names ks r y) (hne : es ≠ [])
    (ht : ∀ env, backTo pos (starEach es env) = es.map fun e => (false, eval e env) := by intro _; rfl)
    (hkt : ∀ env, backToKw pos (keywordEach keywords env) = (names.zip kes).map fun q => (some q.1, (do let v ← eval q.2 env; standAt pos; pure v)) := by intro _; rfl) (hlen : names.length = kes.length := by rfl) :
    Ev prog w D n sc Γ P (.Call (.Name id p) es keywords pos) r y := by
  intro A env s E hL hE hW hF hV
  refine wpAny_Call_Name_kw (wpAny_mono (hf A env s E hL hE hW hF hV) (fun v s₁ h₁ => ?_) fun _ _ e => e)
  obtain ⟨k, rfl⟩ := h₁
  have k₁ := keeps_keep k
  obtain ⟨o, fd, ho, hd, _⟩ := (hW.fns x a F hx).ok
  rw [ht, hkt]
  refine callWith_function_kw (o := o) (fd := fd) ?_
  obtain ⟨e, es, rfl⟩ : ∃ e es', es = e :: es' := by cases es with
    | nil => exact absurd rfl hne
    | cons e es => exact ⟨e, es, rfl⟩
  have hzip : ∀ (ns : List Str) (es : List Expr), ns.length = es.length → ((ns.zip es).map fun q : Str × Expr => (some q.1, (do let v ← eval q.2 env; standAt pos; pure v : Sem Value))).map (·.2) = es.map (fun e => (do let v ← eval e env; standAt pos; pure v : Sem Value)) ∧
      ((ns.zip es).map fun q : Str × Expr => (some q.1, (do let v ← eval q.2 env; standAt pos; pure v : Sem Value))).filterMap (·.1) = ns := by
    intro ns
    induction ns with
    | nil => intro es h; cases es with
      | nil => exact ⟨rfl, rfl⟩
      | cons => cases h
    | cons m ns ih => intro es h; cases es with
      | nil => cases h
      | cons e es =>
        have := ih es (by simpa using h)
        rw [List.zip_cons_cons, List.map_cons, List.map_cons, List.map_cons, this.1, List.filterMap_cons]
        exact ⟨rfl, by rw [this.2]⟩
  refine evalArgs_kw (by simp) ?_
  rw [← List.map_cons (f := fun e => (false, eval e env))]
  refine wpAny_mono (spliced_ev hL hE ha (hW.keep k₁) (hF.keep k₁) (hV.keep k₁)) (fun vs s₂ h₂ => ?_) fun _ _ e => e
  have k₂ := k₁.trans (keeps_keep h₂.1)
  rw [(hzip names kes hlen).1, (hzip names kes hlen).2]
  refine wpAny_mono (evalAll_back hL hE hk (hW.keep k₂) (hF.keep k₂) (hV.keep k₂)) (fun kvs s₃ h₃ => ?_) fun _ _ e => e
  have k₃ := k₂.trans (keeps_keep h₃.1)
  refine ⟨⟨k₃.get ho (not_fra fun _ _ z => by rw [hd] at z; cases z), hd⟩, ?_⟩
  exact wpAny_mono (hc A s₃ vs kvs E hL (hW.keep k₃) (hF.keep k₃) (h₂.2.keep (keeps_keep h₃.1)) h₃.2) (fun v s₄ q => ⟨keeps_trans k (keeps_trans h₂.1 (keeps_trans h₃.1 q.1)), q.2⟩) fun _ _ e => e
end
end Mine
end

section
open PySem PySem.W
set_option Elab.async false
set_option linter.unusedVariables false
set_option linter.unusedSectionVars false
set_option maxRecDepth 10000
namespace Mine
variable [Lim]

noncomputable def stm (i : Nat) : Stmt := (PySem.Challenge.pw_sc0053_01.main.body[i]?).getD (.Pass ⟨0, 0, 0, 0⟩)
noncomputable def paramsOf : Stmt → Arguments
  | .FunctionDef _ a .. => a
  | _ => ⟨[], [], none, [], [], none, []⟩
noncomputable def bodyOf : Stmt → List Stmt
  | .FunctionDef _ _ b .. => b
  | _ => []
noncomputable def scopeOf : Stmt → Scope
  | .FunctionDef _ _ _ _ _ _ s .. => s
  | _ => PySem.Challenge.pw_sc0053_01.main.scope
noncomputable def fnOfStm (i : Nat) (bind : Args → List (Str × Value) → Prop) : Fn := ⟨paramsOf (stm i), bodyOf (stm i), scopeOf (stm i), bind⟩

/-- a bisect's binder: what is not given is 0, None, None -/
noncomputable def bindBis (t : Tok) (a : Args) (b : List (Str × Value)) : Prop :=
  (∃ va vx, a = ⟨[va, vx], []⟩ ∧ b = [(("a" : Str), va), (("x" : Str), vx), (("lo" : Str), .int 0 t), (("hi" : Str), .none), (("key" : Str), .none)]) ∨
  (∃ va vx vl vh, a = ⟨[va, vx, vl, vh], []⟩ ∧ b = [(("a" : Str), va), (("x" : Str), vx), (("lo" : Str), vl), (("hi" : Str), vh), (("key" : Str), .none)]) ∨
  (∃ va vx vl vh vk, a = ⟨[va, vx, vl, vh], [(("key" : Str), vk)]⟩ ∧ b = [(("a" : Str), va), (("x" : Str), vx), (("lo" : Str), vl), (("hi" : Str), vh), (("key" : Str), vk)])
noncomputable def fBR : Fn := fnOfStm 1 (bindBis 189)
noncomputable def fBL : Fn := fnOfStm 2 (bindBis 203)

theorem fits_bl : FnFits fBL := ⟨rfl, rfl, rfl, by decide, by decide⟩
theorem fits_br : FnFits fBR := ⟨rfl, rfl, rfl, by decide, by decide⟩

-- the searches, plainly
noncomputable def bl (val : Nat → Int) (x : Int) : Nat → Nat → Nat → Nat
  | 0, lo, _ => lo
  | f + 1, lo, hi => if lo < hi then (if val ((lo + hi) / 2) < x then bl val x f ((lo + hi) / 2 + 1) hi else bl val x f lo ((lo + hi) / 2)) else lo
noncomputable def br (val : Nat → Int) (x : Int) : Nat → Nat → Nat → Nat
  | 0, lo, _ => lo
  | f + 1, lo, hi => if lo < hi then (if x < val ((lo + hi) / 2) then br val x f lo ((lo + hi) / 2) else br val x f ((lo + hi) / 2 + 1) hi) else lo
theorem bl_fuel (val : Nat → Int) (x : Int) : ∀ (f f' lo hi : Nat), hi - lo ≤ f → hi - lo ≤ f' → bl val x f lo hi = bl val x f' lo hi
  | 0, 0, _, _, _, _ => rfl
  | 0, f' + 1, lo, hi, h, _ => by rw [bl, bl, if_neg (by omega)]
  | f + 1, 0, lo, hi, _, h => by rw [bl, bl, if_neg (by omega)]
  | f + 1, f' + 1, lo, hi, h, h' => by
    rw [bl, bl]
    by_cases c : lo < hi
    · rw [if_pos c, if_pos c, bl_fuel val x f f' _ hi (by omega) (by omega), bl_fuel val x f f' lo _ (by omega) (by omega)]
    · rw [if_neg c, if_neg c]
theorem br_fuel (val : Nat → Int) (x : Int) : ∀ (f f' lo hi : Nat), hi - lo ≤ f → hi - lo ≤ f' → br val x f lo hi = br val x f' lo hi
  | 0, 0, _, _, _, _ => rfl
  | 0, f' + 1, lo, hi, h, _ => by rw [br, br, if_neg (by omega)]
  | f + 1, 0, lo, hi, _, h => by rw [br, br, if_neg (by omega)]
  | f + 1, f' + 1, lo, hi, h, h' => by
    rw [br, br]
    by_cases c : lo < hi
    · rw [if_pos c, if_pos c, br_fuel val x f f' _ hi (by omega) (by omega), br_fuel val x f f' lo _ (by omega) (by omega)]
    · rw [if_neg c, if_neg c]
noncomputable def blw (val : Nat → Int) (x : Int) (lo hi : Nat) : Nat := bl val x (hi - lo) lo hi
noncomputable def brw (val : Nat → Int) (x : Int) (lo hi : Nat) : Nat := br val x (hi - lo) lo hi
theorem blw_lt (val : Nat → Int) (x : Int) {lo hi : Nat} (h : lo < hi) : blw val x lo hi = if val ((lo + hi) / 2) < x then blw val x ((lo + hi) / 2 + 1) hi else blw val x lo ((lo + hi) / 2) := by
  unfold blw
  obtain ⟨f, hf⟩ : ∃ f, hi - lo = f + 1 := ⟨hi - lo - 1, by omega⟩
  rw [hf, bl, if_pos h, bl_fuel val x f (hi - ((lo + hi) / 2 + 1)) _ hi (by omega) (by omega), bl_fuel val x f ((lo + hi) / 2 - lo) lo _ (by omega) (by omega)]
theorem blw_ge (val : Nat → Int) (x : Int) {lo hi : Nat} (h : ¬ lo < hi) : blw val x lo hi = lo := by
  unfold blw; rw [show hi - lo = 0 by omega]; rfl
theorem brw_lt (val : Nat → Int) (x : Int) {lo hi : Nat} (h : lo < hi) : brw val x lo hi = if x < val ((lo + hi) / 2) then brw val x lo ((lo + hi) / 2) else brw val x ((lo + hi) / 2 + 1) hi := by
  unfold brw
  obtain ⟨f, hf⟩ : ∃ f, hi - lo = f + 1 := ⟨hi - lo - 1, by omega⟩
  rw [hf, br, if_pos h, br_fuel val x f (hi - ((lo + hi) / 2 + 1)) _ hi (by omega) (by omega), br_fuel val x f ((lo + hi) / 2 - lo) lo _ (by omega) (by omega)]
theorem brw_ge (val : Nat → Int) (x : Int) {lo hi : Nat} (h : ¬ lo < hi) : brw val x lo hi = lo := by
  unfold brw; rw [show hi - lo = 0 by omega]; rfl

section
variable {prog : Program} {w : World} {D : Wd} {g : Heap} {sc : Scope} {env : Env} {P : Addr → Prop} {Γ Γ' Γ₀ : List Bnd} {n : Nat} {A : Around} {s : Shared} {E : Value → Shared → Prop}

theorem mid_ev {p1 p2 p3 p4 p5 : Pos} {lo hi : Nat} (h1 : (⟨"lo", rInt, (lo : Int)⟩ : Bnd) ∈ Γ) (h2 : (⟨"hi", rInt, (hi : Int)⟩ : Bnd) ∈ Γ) (hN : lo + hi < 2 ^ 40) :
    Ev prog w D n sc Γ P (.BinOp (.BinOp (.Name "lo" p1) .Add (.Name "hi" p2) p3) .FloorDiv (.Constant (.int 2) 0 p4) p5) rInt (((lo + hi) / 2 : Nat) : Int) := by
  refine Ev.cast (Ev.bin (Ev.bin (Ev.var h1) (Ev.var h2) (op_add _ _)) Ev.int (op_floordiv _ _ (by decide) (PyProof.noPylong_small (by omega)))) ?_
  rw [Int.fdiv_eq_ediv_of_nonneg _ (by decide)]; omega

theorem while_left {vE : Expr} {p1 p2 p3 p4 p5 p6 p7 p8 p9 p10 p11 p12 p13 p14 p15 p16 p17 p18 p19 p20 p21 p22 : Pos} {val : Nat → Int} {x : Int} {lo hi N : Nat} (hN : N < 2 ^ 30) (hhi : hi ≤ N) (hlo : lo ≤ N) (h1 : Stor sc "mid") (h2 : Stor sc "lo") (h3 : Stor sc "hi")
    (hx : (⟨"x", rInt, x⟩ : Bnd) ∈ Γ₀) (hn : ∀ b ∈ Γ₀, b.name ≠ "mid" ∧ b.name ≠ "lo" ∧ b.name ≠ "hi") (hΓ : ∀ b ∈ (⟨"lo", rInt, (lo : Int)⟩ :: ⟨"hi", rInt, (hi : Int)⟩ :: Γ₀ : List Bnd), b ∈ Γ)
    (hv : ∀ (mid : Nat) Θ, mid < N → (⟨"mid", rInt, (mid : Int)⟩ : Bnd) ∈ Θ → (∀ b ∈ Γ₀, b ∈ Θ) → Ev prog w D n sc Θ P vE rInt (val mid)) :
    Ex prog w D n sc P Γ [] (.While (.Compare (.Name "lo" p1) [.Lt] [.Name "hi" p2] p3) [.Assign [.Name "mid" p4] (.BinOp (.BinOp (.Name "lo" p5) .Add (.Name "hi" p6) p7) .FloorDiv (.Constant (.int 2) 0 p8) p9) p10,
      .If (.Compare vE [.Lt] [.Name "x" p11] p12) [.Assign [.Name "lo" p13] (.BinOp (.Name "mid" p14) .Add (.Constant (.int 1) 0 p15) p16) p17] [.Assign [.Name "hi" p18] (.Name "mid" p19) p20] p21] [] p22)
      (⟨"lo", rInt, (blw val x lo hi : Int)⟩ :: Γ₀) [] := by
  refine Ex.while (σ := Nat × Nat) (fun q => ⟨"lo", rInt, (q.1 : Int)⟩ :: ⟨"hi", rInt, (q.2 : Int)⟩ :: Γ₀) (fun q => decide (q.1 < q.2)) (fun q => if val ((q.1 + q.2) / 2) < x then ((q.1 + q.2) / 2 + 1, q.2) else (q.1, (q.1 + q.2) / 2))
    (fun q => q.2 - q.1) (fun q => q.1 ≤ N ∧ q.2 ≤ N ∧ blw val x q.1 q.2 = blw val x lo hi) (x₀ := (lo, hi)) ⟨hlo, hhi, rfl⟩ hΓ (fun q hq => ?_) (fun q hq hb => ?_) (fun q hq hb c hc => ?_)
  · exact Et.cast (Et.cmp Ev.var Ev.var (op_lt _ _)) (by simp)
  · obtain ⟨a, b⟩ := q
    have hab : a < b := by simpa using hb
    obtain ⟨h4, h5, h6⟩ := hq
    dsimp only at h4 h5 h6 ⊢
    rw [blw_lt _ _ hab] at h6
    refine ⟨?_, ?_, ?_⟩
    · refine ExS.cons rfl (Ex.assign (r := rInt) (y := (((a + b) / 2 : Nat) : Int)) (Γ' := ⟨"mid", rInt, (((a + b) / 2 : Nat) : Int)⟩ :: ⟨"lo", rInt, (a : Int)⟩ :: ⟨"hi", rInt, (b : Int)⟩ :: Γ₀) Seen.self (mid_ev (.head _) (.tail _ (.head _)) (by omega)) solid_int h1 fun c hc => ?_) ?_
      · rcases List.mem_cons.mp hc with q | hc
        · exact .inl q
        · refine .inr ⟨hc, ?_⟩
          rcases List.mem_cons.mp hc with rfl | hc
          · dsimp only; decide
          · rcases List.mem_cons.mp hc with rfl | hc
            · dsimp only; decide
            · exact (hn c hc).1
      · refine ExS.cons rfl (Ex.ifB Seen.self (Et.cmp (hv ((a + b) / 2) _ (by omega) (.head _) fun c hc => .tail _ (.tail _ (.tail _ hc))) (Ev.var (.tail _ (.tail _ (.tail _ hx)))) (op_lt _ _)) (fun hc => ?_) (fun hc => ?_)) (ExS.nil fun b hb => hb)
        · rw [if_pos (by simpa using hc)]
          refine ExS.cons rfl (Ex.assign (r := rInt) (y := (((a + b) / 2 + 1 : Nat) : Int)) Seen.self (Ev.cast (Ev.bin Ev.var Ev.int (op_add _ _)) (by omega)) solid_int h2 fun c hc => ?_) (ExS.nil fun b hb => hb)
          rcases List.mem_cons.mp hc with q | hc
          · exact .inl q
          · rcases List.mem_cons.mp hc with rfl | hc
            · exact .inr ⟨.tail _ (.tail _ (.head _)), by dsimp only; decide⟩
            · exact .inr ⟨.tail _ (.tail _ (.tail _ hc)), (hn c hc).2.1⟩
        · rw [if_neg (by simpa using hc)]
          refine ExS.cons rfl (Ex.assign (r := rInt) (y := (((a + b) / 2 : Nat) : Int)) Seen.self Ev.var solid_int h3 fun c hc => ?_) (ExS.nil fun b hb => hb)
          rcases List.mem_cons.mp hc with rfl | hc
          · exact .inr ⟨.tail _ (.head _), by dsimp only; decide⟩
          · rcases List.mem_cons.mp hc with q | hc
            · exact .inl q
            · exact .inr ⟨.tail _ (.tail _ (.tail _ hc)), (hn c hc).2.2⟩
    · by_cases c : val ((a + b) / 2) < x
      · rw [if_pos c] at h6 ⊢; exact ⟨by dsimp only; omega, h5, h6⟩
      · rw [if_neg c] at h6 ⊢; exact ⟨h4, by dsimp only; omega, h6⟩
    · by_cases c : val ((a + b) / 2) < x
      · rw [if_pos c]; dsimp only; omega
      · rw [if_neg c]; dsimp only; omega
  · obtain ⟨a, b⟩ := q
    have hab : ¬ a < b := by simpa using hb
    have := hq.2.2
    dsimp only at this ⊢
    rw [blw_ge _ _ hab] at this
    rcases List.mem_cons.mp hc with rfl | hc
    · rw [← this]; exact .head _
    · exact .tail _ (.tail _ hc)
theorem while_right {vE : Expr} {p1 p2 p3 p4 p5 p6 p7 p8 p9 p10 p11 p12 p13 p14 p15 p16 p17 p18 p19 p20 p21 p22 : Pos} {val : Nat → Int} {x : Int} {lo hi N : Nat} (hN : N < 2 ^ 30) (hhi : hi ≤ N) (hlo : lo ≤ N) (h1 : Stor sc "mid") (h2 : Stor sc "lo") (h3 : Stor sc "hi")
    (hx : (⟨"x", rInt, x⟩ : Bnd) ∈ Γ₀) (hn : ∀ b ∈ Γ₀, b.name ≠ "mid" ∧ b.name ≠ "lo" ∧ b.name ≠ "hi") (hΓ : ∀ b ∈ (⟨"lo", rInt, (lo : Int)⟩ :: ⟨"hi", rInt, (hi : Int)⟩ :: Γ₀ : List Bnd), b ∈ Γ)
    (hm : ∀ op : CmpOp, behindInMarks op vE = false) (hv : ∀ (mid : Nat) Θ, mid < N → (⟨"mid", rInt, (mid : Int)⟩ : Bnd) ∈ Θ → (∀ b ∈ Γ₀, b ∈ Θ) → Ev prog w D n sc Θ P vE rInt (val mid)) :
    Ex prog w D n sc P Γ [] (.While (.Compare (.Name "lo" p1) [.Lt] [.Name "hi" p2] p3) [.Assign [.Name "mid" p4] (.BinOp (.BinOp (.Name "lo" p5) .Add (.Name "hi" p6) p7) .FloorDiv (.Constant (.int 2) 0 p8) p9) p10,
      .If (.Compare (.Name "x" p11) [.Lt] [vE] p12) [.Assign [.Name "hi" p18] (.Name "mid" p19) p20] [.Assign [.Name "lo" p13] (.BinOp (.Name "mid" p14) .Add (.Constant (.int 1) 0 p15) p16) p17] p21] [] p22)
      (⟨"lo", rInt, (brw val x lo hi : Int)⟩ :: Γ₀) [] := by
  refine Ex.while (σ := Nat × Nat) (fun q => ⟨"lo", rInt, (q.1 : Int)⟩ :: ⟨"hi", rInt, (q.2 : Int)⟩ :: Γ₀) (fun q => decide (q.1 < q.2)) (fun q => if x < val ((q.1 + q.2) / 2) then (q.1, (q.1 + q.2) / 2) else ((q.1 + q.2) / 2 + 1, q.2))
    (fun q => q.2 - q.1) (fun q => q.1 ≤ N ∧ q.2 ≤ N ∧ brw val x q.1 q.2 = brw val x lo hi) (x₀ := (lo, hi)) ⟨hlo, hhi, rfl⟩ hΓ (fun q hq => ?_) (fun q hq hb => ?_) (fun q hq hb c hc => ?_)
  · exact Et.cast (Et.cmp Ev.var Ev.var (op_lt _ _)) (by simp)
  · obtain ⟨a, b⟩ := q
    have hab : a < b := by simpa using hb
    obtain ⟨h4, h5, h6⟩ := hq
    dsimp only at h4 h5 h6 ⊢
    rw [brw_lt _ _ hab] at h6
    refine ⟨?_, ?_, ?_⟩
    · refine ExS.cons rfl (Ex.assign (r := rInt) (y := (((a + b) / 2 : Nat) : Int)) (Γ' := ⟨"mid", rInt, (((a + b) / 2 : Nat) : Int)⟩ :: ⟨"lo", rInt, (a : Int)⟩ :: ⟨"hi", rInt, (b : Int)⟩ :: Γ₀) Seen.self (mid_ev (.head _) (.tail _ (.head _)) (by omega)) solid_int h1 fun c hc => ?_) ?_
      · rcases List.mem_cons.mp hc with q | hc
        · exact .inl q
        · refine .inr ⟨hc, ?_⟩
          rcases List.mem_cons.mp hc with rfl | hc
          · dsimp only; decide
          · rcases List.mem_cons.mp hc with rfl | hc
            · dsimp only; decide
            · exact (hn c hc).1
      · refine ExS.cons rfl (Ex.ifB Seen.self (Et.cmp (Ev.var (.tail _ (.tail _ (.tail _ hx)))) (hv ((a + b) / 2) _ (by omega) (.head _) fun c hc => .tail _ (.tail _ (.tail _ hc))) (op_lt _ _) (hm _)) (fun hc => ?_) (fun hc => ?_)) (ExS.nil fun b hb => hb)
        · rw [if_pos (by simpa using hc)]
          refine ExS.cons rfl (Ex.assign (r := rInt) (y := (((a + b) / 2 : Nat) : Int)) Seen.self Ev.var solid_int h3 fun c hc => ?_) (ExS.nil fun b hb => hb)
          rcases List.mem_cons.mp hc with rfl | hc
          · exact .inr ⟨.tail _ (.head _), by dsimp only; decide⟩
          · rcases List.mem_cons.mp hc with q | hc
            · exact .inl q
            · exact .inr ⟨.tail _ (.tail _ (.tail _ hc)), (hn c hc).2.2⟩
        · rw [if_neg (by simpa using hc)]
          refine ExS.cons rfl (Ex.assign (r := rInt) (y := (((a + b) / 2 + 1 : Nat) : Int)) Seen.self (Ev.cast (Ev.bin Ev.var Ev.int (op_add _ _)) (by omega)) solid_int h2 fun c hc => ?_) (ExS.nil fun b hb => hb)
          rcases List.mem_cons.mp hc with q | hc
          · exact .inl q
          · rcases List.mem_cons.mp hc with rfl | hc
            · exact .inr ⟨.tail _ (.tail _ (.head _)), by dsimp only; decide⟩
            · exact .inr ⟨.tail _ (.tail _ (.tail _ hc)), (hn c hc).2.1⟩
    · by_cases c : x < val ((a + b) / 2)
      · rw [if_pos c] at h6 ⊢; exact ⟨h4, by dsimp only; omega, h6⟩
      · rw [if_neg c] at h6 ⊢; exact ⟨by dsimp only; omega, h5, h6⟩
    · by_cases c : x < val ((a + b) / 2)
      · rw [if_pos c]; dsimp only; omega
      · rw [if_neg c]; dsimp only; omega
  · obtain ⟨a, b⟩ := q
    have hab : ¬ a < b := by simpa using hb
    have := hq.2.2
    dsimp only at this ⊢
    rw [brw_ge _ _ hab] at this
    rcases List.mem_cons.mp hc with rfl | hc
    · rw [← this]; exact .head _
    · exact .tail _ (.tail _ hc)
end
end Mine
end

section
open PySem PySem.W
set_option Elab.async false
set_option linter.unusedVariables false
set_option linter.unusedSectionVars false
set_option maxRecDepth 10000
namespace Mine
variable [Lim]

noncomputable def lamStm : Stmt := ((bodyOf (stm 13))[1]?).getD (.Pass ⟨0, 0, 0, 0⟩)
noncomputable def lamE : Expr := match lamStm with | .Assign _ e _ => e | _ => .Constant .none 0 ⟨0, 0, 0, 0⟩
noncomputable def lamParams : Arguments := match lamE with | .Lambda a _ _ _ => a | _ => ⟨[], [], none, [], [], none, []⟩
noncomputable def lamBody : Expr := match lamE with | .Lambda _ b _ _ => b | _ => .Constant .none 0 ⟨0, 0, 0, 0⟩
noncomputable def lamScope : Scope := match lamE with | .Lambda _ _ s _ => s | _ => PySem.Challenge.pw_sc0053_01.main.scope
noncomputable def lamPos : Pos := match lamE with | .Lambda _ _ _ p => p | _ => ⟨0, 0, 0, 0⟩

/-- the function that tells a place's number with its sign turned -/
noncomputable def rKey : Rel (List Int) :=
  ⟨fun P h v row => ∃ a qual pm c' ct c rv, v = .ref a ∧ P a ∧ P c ∧ P c' ∧ h.get? a = some (kla_obj "<lambda>" qual lamParams lamBody lamScope [(("row" : Str), c)] pm c' ct) ∧ h.CodeRec (.ref c') qual ∧ h.IsCell c (some rv) ∧ (rList rInt).is P h rv row,
   fun {P P' h h' v x} p k e => by
    obtain ⟨a, qual, pm, c', ct, c, rv, rfl, pa, pc, pc', ho, hcd, ⟨oc, hoc, hdc⟩, hr⟩ := e
    obtain ⟨c₂, o₂, vs, t, e₂, ho₂, r₂⟩ := id hcd
    cases e₂
    exact ⟨a, qual, pm, c', ct, c, rv, rfl, p _ _ pa ho, p _ _ pc hoc, p _ _ pc' ho₂, k.get ho (not_fra fun _ _ z => by cases z), k.code hcd, k.cell ⟨oc, hoc, hdc⟩, (rList rInt).mono p k hr⟩⟩
theorem solid_key : Solid rKey := fun {P P' h h' v x} k e => by
  obtain ⟨a, qual, pm, c', ct, c, rv, rfl, pa, pc, pc', ho, hcd, ⟨oc, hoc, hdc⟩, hr⟩ := e
  obtain ⟨c₂, o₂, vs, t, e₂, ho₂, hd₂, hv₂⟩ := hcd
  cases e₂
  have z1 := k a _ pa (by unfold Kd; trivial) ho
  have z2 := k c _ pc (by unfold Kd; rw [hdc]; trivial) hoc
  have z3 := k c' _ pc' (by unfold Kd; rw [hd₂]; exact ⟨_, _, hv₂⟩) ho₂
  exact ⟨a, qual, pm, c', ct, c, rv, rfl, z1.1, z2.1, z3.1, z1.2, ⟨c', o₂, vs, t, rfl, z3.2, hd₂, hv₂⟩, ⟨oc, z2.2, hdc⟩, solid_list solid_int k hr⟩

section
variable {prog : Program} {w : World} {D : Wd} {g : Heap} {sc : Scope} {env : Env} {P : Addr → Prop} {Γ Γ' Γ₀ : List Bnd} {n : Nat} {A : Around} {s : Shared} {E : Value → Shared → Prop}

theorem lam_cell : ∀ p ∈ lamScope.names, p.2 ≠ NameKind.cell := by decide
theorem lam_free' : ∀ p ∈ lamScope.names, p.2 = NameKind.free → p.1 = "row" := by decide
theorem lam_free (x : Str) (h : (x, NameKind.free) ∈ lamScope.names) : x = "row" := lam_free' _ h rfl
theorem call_key {v u : Value} {row : List Int} {i y : Int} (hL : Lv (n + 1) A) (hW : D.Ok s.heap) (hF : Free A P s.heap) (hv : rKey.is P s.heap v row) (hu : rInt.is P s.heap u i) (h0 : 0 ≤ i) (hi : i < 2 ^ 40) (hy : row[i.toNat]? = some y) :
    wpAny (model prog w) A (call v [u] []) (fun q s' => Keeps s s' ∧ rInt.is P s'.heap q (-y)) E s := by
  obtain ⟨a, qual, pm, c', ct, c, rv, rfl, pa, pc, pc', ho, hcd, hcell, hr⟩ := hv
  refine wpAny_call (kla_callFunE hL.room ho rfl rfl rfl rfl hcd ?_)
  have hb : bindArgs (kla_fn "<lambda>" qual lamParams lamBody lamScope [(("row" : Str), c)] pm (.ref c') ct) ⟨[u], []⟩ = pure [(("other" : Str), u)] := by rfl
  rw [hb]
  refine wpAny_pure (wpAny_newFunctionEnv (show ∀ x ∈ lamScope.names, x.2 ≠ NameKind.cell by decide) (by intro q hq; rw [List.mem_singleton.mp hq]; rfl) (fun h₁ hns hsb => ⟨hW.lim.fresh _ hsb, ?_⟩) rfl)
  have hk₁ : Keep s.heap h₁ := .of fun b o e => hsb.extBut b o (Nat.ne_of_lt (Heap.lt_size e)) (Heap.get?_push_of_some _ e)
  refine kla_codeExpr ?_
  have hEv : Ev prog w D n lamScope [⟨"other", rInt, i⟩, ⟨"row", rList rInt, row⟩] (fun b => P b ∧ b ≠ s.heap.objs.size) lamBody rInt (-y) :=
    Ev.neg (Ev.idx (Ev.root Ev.var) Ev.var h0 (by omega) hy)
  refine wpAny_mono (hEv _ _ _ _ (hL.deeper _) ?_ (hW.keep hk₁) ⟨fun b hb => ?_, ?_⟩ ?_) (fun q s' z => ⟨keeps_trans ⟨h₁, _, rfl, hk₁⟩ z.1, z.2⟩) fun _ _ e => e
  · refine ⟨rfl, rfl, rfl, fun x hx => hx, fun x hx => ?_, fun x hx => ?_, fun x hx => hx, fun x z c₁ hx hz => ?_⟩
    · exact absurd rfl (lam_cell _ (mem_of_lookup hx))
    · exact ⟨.inr hx, c, by rw [lam_free x (mem_of_lookup hx)]; rfl⟩
    · have one : ∀ {x : Str} {c₁ : Addr}, List.lookup x [(("row" : Str), c)] = some c₁ → x = "row" := fun {x c₁} h => (Prod.mk.inj (List.mem_singleton.mp (mem_of_lookup h))).1
      rw [one hx, one hz]
  · by_cases p : P b
    · have q : b = s.heap.objs.size := by
        apply Classical.byContradiction
        intro q; exact hb ⟨p, q⟩
      obtain ⟨o, es, ep, ho, hd, _⟩ := hns
      exact ⟨o, q ▸ ho, fun vs z => by rw [hd] at z; cases z⟩
    · obtain ⟨o, ho, nf⟩ := hF.ta b p
      obtain ⟨o', ho', d, _⟩ := hk₁.obj ho
      exact ⟨o', ho', fun vs => d ▸ nf vs⟩
  · obtain ⟨l, hl, hq⟩ := hF.fr' (P' := fun b => P b ∧ b ≠ s.heap.objs.size) (fun b z p => z p.1) fun L m _ q => ⟨m, hk₁.ns q⟩
    refine ⟨_ :: l, Around.frames_deeper hl, fun e he' => ?_⟩
    rcases List.mem_cons.mp he' with rfl | he'
    · exact ⟨fun q => (by cases q), s.heap.objs.size, rfl, hW.size, fun p => p.2 rfl, _, hns⟩
    · exact hq e he'
  · have hne : ∀ (c : Addr) o, P c → s.heap.get? c = some o → P c ∧ c ≠ s.heap.objs.size := fun c o p e => ⟨p, Nat.ne_of_lt (Heap.lt_size e)⟩
    intro b hb
    rcases List.mem_cons.mp hb with rfl | hb
    · exact ⟨u, .inl ⟨rfl, _, hns, by rfl⟩, hu⟩
    · rw [List.mem_singleton.mp hb]
      exact ⟨rv, .inr ⟨.inr rfl, c, rfl, hk₁.cell hcell⟩, (rList rInt).mono hne hk₁ hr⟩
end
end Mine
end

section
open PySem PySem.W
set_option Elab.async false
set_option linter.unusedVariables false
set_option linter.unusedSectionVars false
set_option maxRecDepth 10000
namespace Mine
variable [Lim]

noncomputable def rOpt {α : Type} (r : Rel α) : Rel (Option α) :=
  ⟨fun P h v x => match x with | none => v = .none | some y => r.is P h v y, fun {P P' h h' v x} p k e => by
    cases x with
    | none => exact e
    | some y => exact r.mono p k e⟩
theorem solid_opt {α : Type} {r : Rel α} (s : Solid r) : Solid (rOpt r) := fun {P P' h h' v x} k e => by
  cases x with
  | none => exact e
  | some y => exact s k e

section
variable {prog : Program} {w : World} {D : Wd} {g : Heap} {sc : Scope} {env : Env} {P : Addr → Prop} {Γ Γ' Γ₀ : List Bnd} {n : Nat} {A : Around} {s : Shared} {E : Value → Shared → Prop} {α : Type} {r : Rel α}

/-- never None -/
noncomputable def Some' (r : Rel α) : Prop := ∀ P h v y, r.is P h v y → plainIs v .none = true ∧ (v == Value.none) = false
theorem some_int : Some' rInt := fun P h v y ⟨t, e⟩ => by subst e; exact ⟨rfl, rfl⟩
theorem some_key : Some' rKey := fun P h v y e => by obtain ⟨a, _, _, _, _, _, _, rfl, _⟩ := e; exact ⟨rfl, rfl⟩
theorem op_isNone (y : Unit) : Op2 prog w D n P (compareOp .Is) rNone y rNone () rBool true := by
  intro A s E v u hL hW hF hv hu
  have e1 : v = .none := hv
  have e2 : u = .none := hu
  subst e1 e2
  exact wpAny_is_plain rfl ⟨keeps_refl s, rfl⟩
theorem op_isSome (hr : Some' r) (y : α) : Op2 prog w D n P (compareOp .Is) r y rNone () rBool false := by
  intro A s E v u hL hW hF hv hu
  have e2 : u = .none := hu
  subst e2
  obtain ⟨h1, h2⟩ := hr _ _ _ _ hv
  exact wpAny_is_plain h1 ⟨keeps_refl s, by rw [h2]; rfl⟩

theorem Ev.callKey {id : Str} {p pos : Pos} {e : Expr} {row : List Int} {i y : Int} (hk : Ev prog w D (n + 1) sc Γ P (.Name id p) rKey row) (he : Ev prog w D (n + 1) sc Γ P e rInt i) (h0 : 0 ≤ i) (hi : i < 2 ^ 40) (hy : row[i.toNat]? = some y)
    (ht : ∀ env, backTo pos (starEach [e] env) = [(false, eval e env)] := by intro _; rfl) : Ev prog w D (n + 1) sc Γ P (.Call (.Name id p) [e] [] pos) rInt (-y) := by
  intro A env s E hL hE hW hF hV
  refine wpAny_Call_Name_kw (wpAny_mono (hk A env s E hL hE hW hF hV) (fun v s₁ h₁ => ?_) fun _ _ e => e)
  obtain ⟨k, hv⟩ := h₁
  have k₁ := keeps_keep k
  rw [ht]
  have hv' := hv
  obtain ⟨a, qual, pm, c', ct, c, rv, rfl, pa, pc, pc', ho, _⟩ := hv'
  refine callWith_function_kw (o := kla_obj "<lambda>" qual lamParams lamBody lamScope [(("row" : Str), c)] pm c' ct) (fd := kla_fn "<lambda>" qual lamParams lamBody lamScope [(("row" : Str), c)] pm (.ref c') ct) ?_
  refine evalArgs_kw rfl (Calls.spliced_cons (wpAny_mono (he A env s₁ E hL hE (hW.keep k₁) (hF.keep k₁) (hV.keep k₁)) (fun u s₂ q => Calls.spliced_nil (wpAny_evalAll_nil ?_)) fun _ _ e => e))
  have k₂ := k₁.trans (keeps_keep q.1)
  refine ⟨⟨(keeps_keep q.1).get ho (not_fra fun _ _ z => by cases z), rfl⟩, ?_⟩
  exact wpAny_mono (call_key hL (hW.keep k₂) (hF.keep k₂) (rKey.keep (keeps_keep q.1) hv) q.2 h0 hi hy) (fun v s₃ z => ⟨keeps_trans k (keeps_trans q.1 z.1), z.2⟩) fun _ _ e => e

/-- the key of a search: none, or a place's number with its sign turned -/
inductive KeyIs (xs : List Int) (val : Nat → Int) : {κ : Type} → Rel κ → κ → Prop
  | none : (∀ j, j < xs.length → xs[j]? = some (val j)) → KeyIs xs val rNone ()
  | key {row : List Int} : (∀ j, j < xs.length → ∃ (o y : Int), xs[j]? = some o ∧ 0 ≤ o ∧ o < 2 ^ 40 ∧ row[o.toNat]? = some y ∧ val j = -y) → KeyIs xs val rKey row


/-- what is new, or lies within P -/
noncomputable def Out (P : Addr → Prop) (g : Heap) : Addr → Prop := fun b => P b ∨ g.get? b = none
noncomputable def Sh (s s' : Shared) : Prop := ∃ h tk, s' = { s with heap := h, toks := tk }
theorem Sh.rfl {s : Shared} : Sh s s := ⟨s.heap, s.toks, by cases s; exact Eq.refl _⟩
theorem Sh.trans {s s' s'' : Shared} (a : Sh s s') (b : Sh s' s'') : Sh s s'' := by
  obtain ⟨h, t, rfl⟩ := a
  obtain ⟨h', t', rfl⟩ := b
  exact ⟨h', t', Eq.refl _⟩
theorem Sh.of {s s' : Shared} (k : Keeps s s') : Sh s s' := by
  obtain ⟨h, t, rfl, _⟩ := k; exact ⟨h, t, Eq.refl _⟩

/-- a block that gives back `y` -/
noncomputable def Ret (prog : Program) (w : World) (D : Wd) (n : Nat) (sc : Scope) (P : Addr → Prop) (Γ : List Bnd) (M : List Mu) (sts : List Stmt) {α : Type} (r : Rel α) (y : α) : Prop :=
  ∀ A g env s (E : Value → Shared → Prop), Lv n A → EnvOk sc env → St A D g sc env P Γ M s →
    wpAny (model prog w) A (execs sts env) (fun f s' => ∃ v, f = .ret v ∧ Keep g s'.heap ∧ Sh s s' ∧ r.is (Out P g) s'.heap v y) E s

theorem Ret.cast {M : List Mu} {sts : List Stmt} {x y : α} (h : Ret prog w D n sc P Γ M sts r x) (q : x = y) : Ret prog w D n sc P Γ M sts r y := q ▸ h
theorem Ret.pre {M : List Mu} {sts : List Stmt} {y : α} (h : Ret prog w D n sc P Γ' M sts r y) (q : ∀ b ∈ Γ', b ∈ Γ) : Ret prog w D n sc P Γ M sts r y := fun A g env s E hL hE t => h A g env s E hL hE (t.sub q)
theorem Ret.step {M M' : List Mu} {st : Stmt} {sts : List Stmt} {y : α} (h : Ex prog w D n sc P Γ M st Γ' M') (k : Ret prog w D n sc P Γ' M' sts r y) : Ret prog w D n sc P Γ M (st :: sts) r y := by
  intro A g env s E hL hE t
  refine Mine.step (R := fun s' => St A D g sc env P Γ' M' s' ∧ Sh s s') (wpAny_mono (h A g env s E hL hE t) (fun f s' q => ⟨q.1, q.2.1, q.2.2.1⟩) fun _ _ e => e) fun s' q => ?_
  exact wpAny_mono (k A g env s' E hL hE q.1) (fun f s'' ⟨v, a, b, c, d⟩ => ⟨v, a, b, q.2.trans c, d⟩) fun _ _ e => e
theorem Ret.ret {M : List Mu} {Θ : List Bnd} {e : Expr} {pos : Pos} {sts : List Stmt} {y : α} (hs : Seen Γ M Θ) (he : Ev prog w D n sc Θ P e r y) : Ret prog w D n sc P Γ M (.Return (some e) pos :: sts) r y := by
  intro A g env s E hL hE t
  exact ret_ev hL hE t hs he fun v s' k t' hv => ⟨v, rfl, t'.keep, Sh.of k, r.weak (fun b o p _ => .inl p) hv⟩
/-- one of the block's own lists is given back -/
theorem Ret.own {M : List Mu} {m : Mu} {e : Expr} {pos : Pos} {sts : List Stmt} (hm : m ∈ M) (he : Ev prog w D n sc Γ P e rAddr m.a) : Ret prog w D n sc P Γ M (.Return (some e) pos :: sts) (rList m.r) m.xs := by
  intro A g env s E hL hE t
  refine ret_ev hL hE t Seen.self he fun v s' k t' hv => ⟨v, rfl, t'.keep, Sh.of k, ?_⟩
  obtain ⟨_, hg, sr, items, hl, hp⟩ := t'.mus m hm
  have hv' : v = .ref m.a := hv
  exact ⟨m.a, items, hv', .inr hg, hl.isList, paired_imp (fun _ _ q => m.r.weak (fun b o p _ => .inl p) q) hp⟩
theorem Ret.ifRet {M : List Mu} {Θ : List Bnd} {test : Expr} {body orelse sts : List Stmt} {pos : Pos} {y : α} (hs : Seen Γ M Θ) (ht : Et prog w D n sc Θ P test true) (h : Ret prog w D n sc P Γ M body r y) : Ret prog w D n sc P Γ M (.If test body orelse pos :: sts) r y := by
  intro A g env s E hL hE t
  refine wpAny_execs_cons (wpAny_If (wpAny_mono (ht A env s E hL hE t.world t.free (t.seen hs)) (fun c s₁ q => ?_) fun _ _ e => e))
  obtain ⟨k, rfl⟩ := q
  simp only [if_true]
  refine wpAny_mono (h A g env s₁ E hL hE (t.keeps k)) (fun f s'' ⟨v, a, b, c', d⟩ => ?_) fun _ _ e => e
  subst a
  exact ⟨v, rfl, b, (Sh.of k).trans c', d⟩
theorem Ret.elseRet {M : List Mu} {Θ : List Bnd} {test : Expr} {body orelse sts : List Stmt} {pos : Pos} {y : α} (hs : Seen Γ M Θ) (ht : Et prog w D n sc Θ P test false) (h : Ret prog w D n sc P Γ M orelse r y) : Ret prog w D n sc P Γ M (.If test body orelse pos :: sts) r y := by
  intro A g env s E hL hE t
  refine wpAny_execs_cons (wpAny_If (wpAny_mono (ht A env s E hL hE t.world t.free (t.seen hs)) (fun c s₁ q => ?_) fun _ _ e => e))
  obtain ⟨k, rfl⟩ := q
  simp only [Bool.false_eq_true, if_false]
  refine wpAny_mono (h A g env s₁ E hL hE (t.keeps k)) (fun f s'' ⟨v, a, b, c', d⟩ => ?_) fun _ _ e => e
  subst a
  exact ⟨v, rfl, b, (Sh.of k).trans c', d⟩

/-- a call of a def whose block gives back `y` -/
theorem ret_call {F : Fn} {x : Str} {a : Addr} {bs ks : List Bv} {names : List Str} {Γ : List Bnd} {y : α} (hx : D.fn x = some (a, F)) (ff : FnFits F)
    (hb : ∀ vs kvs (h : Heap) P, Are P h vs bs → Are P h kvs ks → ∃ binds, F.bind ⟨vs, names.zip kvs⟩ binds ∧ (∀ p ∈ binds, Stor F.scope p.1) ∧ (binds.map (·.1)).Nodup ∧ ∀ b ∈ Γ, ∃ v, (b.name, v) ∈ binds ∧ b.r.is P h v b.x)
    (h : ∀ P, Ret prog w D n F.scope P Γ [] F.body r y) : CallsTo prog w D (n + 1) P (.ref a) bs names ks r y := by
  intro A s vs kvs E hL hW hF hvs hkvs
  obtain ⟨binds, h1, h2, h3, h4⟩ := hb vs kvs s.heap P hvs hkvs
  refine call_fn hx ff hL hW hF h1 h2 h3 h4 fun env s₁ P' hP' hE _ t hs₁ => ?_
  refine wpAny_mono (h P' _ _ env s₁ _ (hL.deeper env) hE t) (fun f s' q => ?_) fun _ _ e => e
  obtain ⟨v, rfl, k, c, hv⟩ := q
  obtain ⟨h', tk, e⟩ := Sh.trans hs₁ c
  subst e
  refine ⟨keeps_mk k, r.weak (fun b o p _ => p.elim (hP' b) fun q => ?_) hv⟩
  apply Classical.byContradiction
  intro hn
  obtain ⟨o', ho'⟩ := hF.at b hn
  rw [q] at ho'; cases ho'
end
end Mine
end

section
open PySem PySem.W
set_option Elab.async false
set_option linter.unusedVariables false
set_option linter.unusedSectionVars false
set_option maxRecDepth 10000
namespace Mine
variable [Lim]
/-- the bound above: none, or a place -/
inductive HiIs : Option Nat → {β : Type} → Rel β → β → Prop
  | none : HiIs none rNone ()
  | some {h : Nat} : HiIs (some h) rInt (h : Int)
section
variable {prog : Program} {w : World} {D : Wd} {P : Addr → Prop} {n : Nat}

theorem left_block {xs : List Int} {x : Int} {lo : Nat} {hi : Option Nat} {val : Nat → Int} {κ : Type} {rk : Rel κ} {yk : κ} {β : Type} {rh : Rel β} {yh : β}
    (hh : HiIs hi rh yh) (hsz : xs.length < 2 ^ 30) (hlo : lo ≤ xs.length) (hhi : hi.getD xs.length ≤ xs.length) (hk : KeyIs xs val rk yk) (P : Addr → Prop) :
    Ret prog w D (n + 1) fBL.scope P [⟨"lo", rInt, (lo : Int)⟩, ⟨"hi", rh, yh⟩, ⟨"a", rRoot rInt, xs⟩, ⟨"x", rInt, x⟩, ⟨"key", rk, yk⟩] [] fBL.body rInt ((blw val x lo (hi.getD xs.length) : Nat) : Int) := by
  refine Ret.step (Ex.ifNot Seen.self (Et.cast (Et.cmp Ev.var Ev.int (op_lt _ _)) (by simp))) ?_
  refine Ret.step (Γ' := [⟨"lo", rInt, (lo : Int)⟩, ⟨"hi", rInt, ((hi.getD xs.length : Nat) : Int)⟩, ⟨"a", rRoot rInt, xs⟩, ⟨"x", rInt, x⟩, ⟨"key", rk, yk⟩]) (M' := []) ?_ ?_
  · cases hh with
    | none =>
      refine Ex.ifB (b := true) Seen.self (Et.cmp Ev.var Ev.none (op_isNone _)) (fun _ => ?_) (fun h => by cases h)
      refine ExS.cons rfl (Ex.assign (r := rInt) (y := (xs.length : Int)) Seen.self (Ev.len Ev.var (by omega)) solid_int (by decide) fun c hc => ?_) (ExS.nil fun b hb => hb)
      simp only [List.mem_cons, List.not_mem_nil, or_false] at hc
      rcases hc with rfl | rfl | rfl | rfl | rfl
      · exact .inr ⟨by simp, by dsimp only; decide⟩
      · exact .inl rfl
      · exact .inr ⟨by simp, by dsimp only; decide⟩
      · exact .inr ⟨by simp, by dsimp only; decide⟩
      · exact .inr ⟨by simp, by dsimp only; decide⟩
    | some => exact Ex.ifNot Seen.self (Et.cmp Ev.var Ev.none (op_isSome some_int _))
  refine Ret.step (Γ' := [⟨"lo", rInt, ((blw val x lo (hi.getD xs.length) : Nat) : Int)⟩, ⟨"a", rRoot rInt, xs⟩, ⟨"x", rInt, x⟩, ⟨"key", rk, yk⟩]) (M' := []) ?_ (Ret.ret Seen.self Ev.var)
  cases hk with
  | none hv =>
    refine Ex.ifB (b := true) Seen.self (Et.cmp Ev.var Ev.none (op_isNone _)) (fun _ => ExS.cons rfl ?_ (ExS.nil fun b hb => hb)) (fun h => by cases h)
    refine while_left (sc := fBL.scope) (Γ₀ := [⟨"a", rRoot rInt, xs⟩, ⟨"x", rInt, x⟩, ⟨"key", rNone, ()⟩]) (val := val) (lo := lo) (hi := hi.getD xs.length) hsz hhi hlo (by decide) (by decide) (by decide) (.tail _ (.head _)) (fun b hb => ?_) (fun b hb => hb) fun mid Θ hm h1 h2 => ?_
    · simp only [List.mem_cons, List.not_mem_nil, or_false] at hb
      rcases hb with rfl | rfl | rfl <;> (dsimp only; decide)
    · exact Ev.idx (Ev.var (h2 _ (.head _))) (Ev.var h1) (by omega) (by omega) (by simpa using hv mid hm)
  | key hv =>
    refine Ex.ifB (b := false) Seen.self (Et.cmp Ev.var Ev.none (op_isSome some_key _)) (fun h => by cases h) (fun _ => ExS.cons rfl ?_ (ExS.nil fun b hb => hb))
    refine while_left (sc := fBL.scope) (Γ₀ := [⟨"a", rRoot rInt, xs⟩, ⟨"x", rInt, x⟩, ⟨"key", rKey, _⟩]) (val := val) (lo := lo) (hi := hi.getD xs.length) hsz hhi hlo (by decide) (by decide) (by decide) (.tail _ (.head _)) (fun b hb => ?_) (fun b hb => hb) fun mid Θ hm h1 h2 => ?_
    · simp only [List.mem_cons, List.not_mem_nil, or_false] at hb
      rcases hb with rfl | rfl | rfl <;> (dsimp only; decide)
    · obtain ⟨o, y, e1, e2, e3, e4, e5⟩ := hv mid hm
      rw [e5]
      exact Ev.callKey (Ev.var (h2 _ (.tail _ (.tail _ (.head _))))) (Ev.idx (Ev.var (h2 _ (.head _))) (Ev.var h1) (by omega) (by omega) (by simpa using e1)) e2 e3 e4
theorem right_block {xs : List Int} {x : Int} {lo : Nat} {hi : Option Nat} {val : Nat → Int} {κ : Type} {rk : Rel κ} {yk : κ} {β : Type} {rh : Rel β} {yh : β}
    (hh : HiIs hi rh yh) (hsz : xs.length < 2 ^ 30) (hlo : lo ≤ xs.length) (hhi : hi.getD xs.length ≤ xs.length) (hk : KeyIs xs val rk yk) (P : Addr → Prop) :
    Ret prog w D (n + 1) fBR.scope P [⟨"lo", rInt, (lo : Int)⟩, ⟨"hi", rh, yh⟩, ⟨"a", rRoot rInt, xs⟩, ⟨"x", rInt, x⟩, ⟨"key", rk, yk⟩] [] fBR.body rInt ((brw val x lo (hi.getD xs.length) : Nat) : Int) := by
  refine Ret.step (Ex.ifNot Seen.self (Et.cast (Et.cmp Ev.var Ev.int (op_lt _ _)) (by simp))) ?_
  refine Ret.step (Γ' := [⟨"lo", rInt, (lo : Int)⟩, ⟨"hi", rInt, ((hi.getD xs.length : Nat) : Int)⟩, ⟨"a", rRoot rInt, xs⟩, ⟨"x", rInt, x⟩, ⟨"key", rk, yk⟩]) (M' := []) ?_ ?_
  · cases hh with
    | none =>
      refine Ex.ifB (b := true) Seen.self (Et.cmp Ev.var Ev.none (op_isNone _)) (fun _ => ?_) (fun h => by cases h)
      refine ExS.cons rfl (Ex.assign (r := rInt) (y := (xs.length : Int)) Seen.self (Ev.len Ev.var (by omega)) solid_int (by decide) fun c hc => ?_) (ExS.nil fun b hb => hb)
      simp only [List.mem_cons, List.not_mem_nil, or_false] at hc
      rcases hc with rfl | rfl | rfl | rfl | rfl
      · exact .inr ⟨by simp, by dsimp only; decide⟩
      · exact .inl rfl
      · exact .inr ⟨by simp, by dsimp only; decide⟩
      · exact .inr ⟨by simp, by dsimp only; decide⟩
      · exact .inr ⟨by simp, by dsimp only; decide⟩
    | some => exact Ex.ifNot Seen.self (Et.cmp Ev.var Ev.none (op_isSome some_int _))
  refine Ret.step (Γ' := [⟨"lo", rInt, ((brw val x lo (hi.getD xs.length) : Nat) : Int)⟩, ⟨"a", rRoot rInt, xs⟩, ⟨"x", rInt, x⟩, ⟨"key", rk, yk⟩]) (M' := []) ?_ (Ret.ret Seen.self Ev.var)
  cases hk with
  | none hv =>
    refine Ex.ifB (b := true) Seen.self (Et.cmp Ev.var Ev.none (op_isNone _)) (fun _ => ExS.cons rfl ?_ (ExS.nil fun b hb => hb)) (fun h => by cases h)
    refine while_right (sc := fBR.scope) (Γ₀ := [⟨"a", rRoot rInt, xs⟩, ⟨"x", rInt, x⟩, ⟨"key", rNone, ()⟩]) (val := val) (lo := lo) (hi := hi.getD xs.length) hsz hhi hlo (by decide) (by decide) (by decide) (.tail _ (.head _)) (fun b hb => ?_) (fun b hb => hb) (by intro op; cases op <;> with_unfolding_all rfl) fun mid Θ hm h1 h2 => ?_
    · simp only [List.mem_cons, List.not_mem_nil, or_false] at hb
      rcases hb with rfl | rfl | rfl <;> (dsimp only; decide)
    · exact Ev.idx (Ev.var (h2 _ (.head _))) (Ev.var h1) (by omega) (by omega) (by simpa using hv mid hm)
  | key hv =>
    refine Ex.ifB (b := false) Seen.self (Et.cmp Ev.var Ev.none (op_isSome some_key _)) (fun h => by cases h) (fun _ => ExS.cons rfl ?_ (ExS.nil fun b hb => hb))
    refine while_right (sc := fBR.scope) (Γ₀ := [⟨"a", rRoot rInt, xs⟩, ⟨"x", rInt, x⟩, ⟨"key", rKey, _⟩]) (val := val) (lo := lo) (hi := hi.getD xs.length) hsz hhi hlo (by decide) (by decide) (by decide) (.tail _ (.head _)) (fun b hb => ?_) (fun b hb => hb) (by intro op; cases op <;> with_unfolding_all rfl) fun mid Θ hm h1 h2 => ?_
    · simp only [List.mem_cons, List.not_mem_nil, or_false] at hb
      rcases hb with rfl | rfl | rfl <;> (dsimp only; decide)
    · obtain ⟨o, y, e1, e2, e3, e4, e5⟩ := hv mid hm
      rw [e5]
      exact Ev.callKey (Ev.var (h2 _ (.tail _ (.tail _ (.head _))))) (Ev.idx (Ev.var (h2 _ (.head _))) (Ev.var h1) (by omega) (by omega) (by simpa using e1)) e2 e3 e4

/-- what a search gives, for arguments of either kind of call -/
theorem left_call2 {nm : Str} {a : Addr} {xs : List Int} {x : Int} {val : Nat → Int} (hx : D.fn nm = some (a, fBL)) (hsz : xs.length < 2 ^ 30) (hv : ∀ j, j < xs.length → xs[j]? = some (val j)) :
    CallsTo prog w D (n + 2) P (.ref a) [⟨rRoot rInt, xs⟩, ⟨rInt, x⟩] [] [] rInt ((blw val x 0 xs.length : Nat) : Int) := by
  refine ret_call hx fits_bl (fun vs kvs h P hvs hk => ?_) fun P => left_block (hi := none) (lo := 0) HiIs.none hsz (by omega) (Nat.le_refl _) (.none hv) P
  cases hk
  cases hvs with
  | @cons va _ _ _ h1 hvs => cases hvs with
    | @cons vx _ _ _ h2 hvs =>
      cases hvs
      refine ⟨_, .inl ⟨va, vx, rfl, rfl⟩, fun p hp => ?_, by simp only [List.map_cons, List.map_nil]; decide, fun b hb => ?_⟩
      · simp only [List.mem_cons, List.not_mem_nil, or_false] at hp
        rcases hp with rfl | rfl | rfl | rfl | rfl <;> (dsimp only; decide)
      · simp only [List.mem_cons, List.not_mem_nil, or_false] at hb
        rcases hb with rfl | rfl | rfl | rfl | rfl
        · exact ⟨_, .tail _ (.tail _ (.head _)), _, rfl⟩
        · exact ⟨_, by simp, rfl⟩
        · exact ⟨va, by simp, h1⟩
        · exact ⟨vx, by simp, h2⟩
        · exact ⟨_, by simp, rfl⟩
theorem left_call4 {nm : Str} {a : Addr} {xs : List Int} {x : Int} {lo : Nat} {hi : Option Nat} {val : Nat → Int} {β : Type} {rh : Rel β} {yh : β} (hx : D.fn nm = some (a, fBL)) (hh : HiIs hi rh yh) (hsz : xs.length < 2 ^ 30) (hlo : lo ≤ xs.length) (hhi : hi.getD xs.length ≤ xs.length) (hv : ∀ j, j < xs.length → xs[j]? = some (val j)) :
    CallsTo prog w D (n + 2) P (.ref a) [⟨rRoot rInt, xs⟩, ⟨rInt, x⟩, ⟨rInt, (lo : Int)⟩, ⟨rh, yh⟩] [] [] rInt ((blw val x lo (hi.getD xs.length) : Nat) : Int) := by
  refine ret_call hx fits_bl (fun vs kvs h P hvs hk => ?_) fun P => left_block hh hsz hlo hhi (.none hv) P
  cases hk
  cases hvs with
  | @cons va _ _ _ h1 hvs => cases hvs with
    | @cons vx _ _ _ h2 hvs => cases hvs with
      | @cons vl _ _ _ h3 hvs => cases hvs with
        | @cons vh _ _ _ h4 hvs =>
          cases hvs
          refine ⟨_, .inr (.inl ⟨va, vx, vl, vh, rfl, rfl⟩), fun p hp => ?_, by simp only [List.map_cons, List.map_nil]; decide, fun b hb => ?_⟩
          · simp only [List.mem_cons, List.not_mem_nil, or_false] at hp
            rcases hp with rfl | rfl | rfl | rfl | rfl <;> (dsimp only; decide)
          · simp only [List.mem_cons, List.not_mem_nil, or_false] at hb
            rcases hb with rfl | rfl | rfl | rfl | rfl
            · exact ⟨vl, by simp, h3⟩
            · exact ⟨vh, by simp, h4⟩
            · exact ⟨va, by simp, h1⟩
            · exact ⟨vx, by simp, h2⟩
            · exact ⟨_, by simp, rfl⟩
theorem left_call5 {nm : Str} {a : Addr} {xs : List Int} {x : Int} {lo : Nat} {hi : Option Nat} {val : Nat → Int} {κ : Type} {rk : Rel κ} {yk : κ} {β : Type} {rh : Rel β} {yh : β} (hx : D.fn nm = some (a, fBL)) (hh : HiIs hi rh yh) (hsz : xs.length < 2 ^ 30) (hlo : lo ≤ xs.length) (hhi : hi.getD xs.length ≤ xs.length) (hk : KeyIs xs val rk yk) :
    CallsTo prog w D (n + 2) P (.ref a) [⟨rRoot rInt, xs⟩, ⟨rInt, x⟩, ⟨rInt, (lo : Int)⟩, ⟨rh, yh⟩] ["key"] [⟨rk, yk⟩] rInt ((blw val x lo (hi.getD xs.length) : Nat) : Int) := by
  refine ret_call hx fits_bl (fun vs kvs h P hvs hkk => ?_) fun P => left_block hh hsz hlo hhi hk P
  cases hkk with
  | @cons vk _ _ _ h5 hkk =>
  cases hkk
  cases hvs with
  | @cons va _ _ _ h1 hvs => cases hvs with
    | @cons vx _ _ _ h2 hvs => cases hvs with
      | @cons vl _ _ _ h3 hvs => cases hvs with
        | @cons vh _ _ _ h4 hvs =>
          cases hvs
          refine ⟨_, .inr (.inr ⟨va, vx, vl, vh, vk, rfl, rfl⟩), fun p hp => ?_, by simp only [List.map_cons, List.map_nil]; decide, fun b hb => ?_⟩
          · simp only [List.mem_cons, List.not_mem_nil, or_false] at hp
            rcases hp with rfl | rfl | rfl | rfl | rfl <;> (dsimp only; decide)
          · simp only [List.mem_cons, List.not_mem_nil, or_false] at hb
            rcases hb with rfl | rfl | rfl | rfl | rfl
            · exact ⟨vl, by simp, h3⟩
            · exact ⟨vh, by simp, h4⟩
            · exact ⟨va, by simp, h1⟩
            · exact ⟨vx, by simp, h2⟩
            · exact ⟨vk, by simp, h5⟩

theorem right_call2 {nm : Str} {a : Addr} {xs : List Int} {x : Int} {val : Nat → Int} (hx : D.fn nm = some (a, fBR)) (hsz : xs.length < 2 ^ 30) (hv : ∀ j, j < xs.length → xs[j]? = some (val j)) :
    CallsTo prog w D (n + 2) P (.ref a) [⟨rRoot rInt, xs⟩, ⟨rInt, x⟩] [] [] rInt ((brw val x 0 xs.length : Nat) : Int) := by
  refine ret_call hx fits_br (fun vs kvs h P hvs hk => ?_) fun P => right_block (hi := none) (lo := 0) HiIs.none hsz (by omega) (Nat.le_refl _) (.none hv) P
  cases hk
  cases hvs with
  | @cons va _ _ _ h1 hvs => cases hvs with
    | @cons vx _ _ _ h2 hvs =>
      cases hvs
      refine ⟨_, .inl ⟨va, vx, rfl, rfl⟩, fun p hp => ?_, by simp only [List.map_cons, List.map_nil]; decide, fun b hb => ?_⟩
      · simp only [List.mem_cons, List.not_mem_nil, or_false] at hp
        rcases hp with rfl | rfl | rfl | rfl | rfl <;> (dsimp only; decide)
      · simp only [List.mem_cons, List.not_mem_nil, or_false] at hb
        rcases hb with rfl | rfl | rfl | rfl | rfl
        · exact ⟨_, .tail _ (.tail _ (.head _)), _, rfl⟩
        · exact ⟨_, by simp, rfl⟩
        · exact ⟨va, by simp, h1⟩
        · exact ⟨vx, by simp, h2⟩
        · exact ⟨_, by simp, rfl⟩
theorem right_call4 {nm : Str} {a : Addr} {xs : List Int} {x : Int} {lo : Nat} {hi : Option Nat} {val : Nat → Int} {β : Type} {rh : Rel β} {yh : β} (hx : D.fn nm = some (a, fBR)) (hh : HiIs hi rh yh) (hsz : xs.length < 2 ^ 30) (hlo : lo ≤ xs.length) (hhi : hi.getD xs.length ≤ xs.length) (hv : ∀ j, j < xs.length → xs[j]? = some (val j)) :
    CallsTo prog w D (n + 2) P (.ref a) [⟨rRoot rInt, xs⟩, ⟨rInt, x⟩, ⟨rInt, (lo : Int)⟩, ⟨rh, yh⟩] [] [] rInt ((brw val x lo (hi.getD xs.length) : Nat) : Int) := by
  refine ret_call hx fits_br (fun vs kvs h P hvs hk => ?_) fun P => right_block hh hsz hlo hhi (.none hv) P
  cases hk
  cases hvs with
  | @cons va _ _ _ h1 hvs => cases hvs with
    | @cons vx _ _ _ h2 hvs => cases hvs with
      | @cons vl _ _ _ h3 hvs => cases hvs with
        | @cons vh _ _ _ h4 hvs =>
          cases hvs
          refine ⟨_, .inr (.inl ⟨va, vx, vl, vh, rfl, rfl⟩), fun p hp => ?_, by simp only [List.map_cons, List.map_nil]; decide, fun b hb => ?_⟩
          · simp only [List.mem_cons, List.not_mem_nil, or_false] at hp
            rcases hp with rfl | rfl | rfl | rfl | rfl <;> (dsimp only; decide)
          · simp only [List.mem_cons, List.not_mem_nil, or_false] at hb
            rcases hb with rfl | rfl | rfl | rfl | rfl
            · exact ⟨vl, by simp, h3⟩
            · exact ⟨vh, by simp, h4⟩
            · exact ⟨va, by simp, h1⟩
            · exact ⟨vx, by simp, h2⟩
            · exact ⟨_, by simp, rfl⟩
theorem right_call5 {nm : Str} {a : Addr} {xs : List Int} {x : Int} {lo : Nat} {hi : Option Nat} {val : Nat → Int} {κ : Type} {rk : Rel κ} {yk : κ} {β : Type} {rh : Rel β} {yh : β} (hx : D.fn nm = some (a, fBR)) (hh : HiIs hi rh yh) (hsz : xs.length < 2 ^ 30) (hlo : lo ≤ xs.length) (hhi : hi.getD xs.length ≤ xs.length) (hk : KeyIs xs val rk yk) :
    CallsTo prog w D (n + 2) P (.ref a) [⟨rRoot rInt, xs⟩, ⟨rInt, x⟩, ⟨rInt, (lo : Int)⟩, ⟨rh, yh⟩] ["key"] [⟨rk, yk⟩] rInt ((brw val x lo (hi.getD xs.length) : Nat) : Int) := by
  refine ret_call hx fits_br (fun vs kvs h P hvs hkk => ?_) fun P => right_block hh hsz hlo hhi hk P
  cases hkk with
  | @cons vk _ _ _ h5 hkk =>
  cases hkk
  cases hvs with
  | @cons va _ _ _ h1 hvs => cases hvs with
    | @cons vx _ _ _ h2 hvs => cases hvs with
      | @cons vl _ _ _ h3 hvs => cases hvs with
        | @cons vh _ _ _ h4 hvs =>
          cases hvs
          refine ⟨_, .inr (.inr ⟨va, vx, vl, vh, vk, rfl, rfl⟩), fun p hp => ?_, by simp only [List.map_cons, List.map_nil]; decide, fun b hb => ?_⟩
          · simp only [List.mem_cons, List.not_mem_nil, or_false] at hp
            rcases hp with rfl | rfl | rfl | rfl | rfl <;> (dsimp only; decide)
          · simp only [List.mem_cons, List.not_mem_nil, or_false] at hb
            rcases hb with rfl | rfl | rfl | rfl | rfl
            · exact ⟨vl, by simp, h3⟩
            · exact ⟨vh, by simp, h4⟩
            · exact ⟨va, by simp, h1⟩
            · exact ⟨vx, by simp, h2⟩
            · exact ⟨vk, by simp, h5⟩
end
end Mine
end

section
open PySem PySem.W
set_option Elab.async false
set_option linter.unusedVariables false
set_option linter.unusedSectionVars false
set_option maxRecDepth 10000
namespace Mine
variable [Lim]

section
variable {prog : Program} {w : World} {D : Wd} {P : Addr → Prop} {n : Nat} {A : Around} {s : Shared} {l : List Env} {h h₁ h₂ base : Heap}

noncomputable abbrev frs (l : List Env) : List Addr := l.filterMap (·.frame)
/-- only free slots changed, but for records -/
noncomputable def Slots (h h' : Heap) : Prop := ∀ b o, h.get? b = some o → (∀ vs, o.data ≠ .fields vs) → ∃ sl, h'.get? b = some { o with slots := sl }

theorem frs_facts (f : Free A P h) (hl : A.frames = some l) : ∀ b ∈ frs l, Lim.n ≤ b ∧ ∃ m, h.Ns b m := by
  obtain ⟨l', hl', hq⟩ := f.fr
  rw [hl] at hl'; cases hl'
  intro b hb
  obtain ⟨e, he, hf⟩ := List.mem_filterMap.mp hb
  obtain ⟨_, L, h1, h2, _, h3⟩ := hq e he
  rw [hf] at h1; cases h1
  exact ⟨h2, h3⟩
theorem keep_step (f : Free A P h) (hl : A.frames = some l) (k : Keep h h₁) (hB : ∀ b o, h.get? b = some o → b ∉ frs l → Kept base b o) (st : base.StaysIn h₂) (hn : Slots h₁ h₂) : Keep h h₂ := by
  intro b o e
  by_cases m : b ∈ frs l
  · obtain ⟨hb, mm, o', es, ep, ho', hd, _⟩ := frs_facts f hl b m
    rw [e] at ho'; cases ho'
    obtain ⟨o₁, e₁, d₁, _⟩ := k.obj e
    obtain ⟨sl, e', q⟩ := k b o e
    obtain ⟨sl', e''⟩ := hn b _ e' (fun vs z => by rw [hd] at z; cases z)
    exact ⟨sl', e'', .inl ⟨hb, es, ep, hd⟩⟩
  · exact (hB b o e m).trans fun o' e' => .of (st b o' e')
theorem funFrames_of : ∀ {l : List Env}, (∀ e ∈ l, e.scope.kind ≠ .module ∧ ∃ L, e.frame = some L ∧ base.get? L = none ∧ ∃ m, h.Ns L m) → h.FunFrames base l
  | [], _ => trivial
  | e :: l, q => by
    obtain ⟨h1, L, h2, h3, m, o, es, ep, ho, hd, _⟩ := q e (.head _)
    exact ⟨h1, ⟨L, o, h2, h3, ho, fun vs z => by rw [hd] at z; cases z⟩, funFrames_of fun e he => q e (.tail _ he)⟩
theorem frames_of (f : Free A P h) (hl : A.frames = some l) (hb : ∀ b ∈ frs l, base.get? b = none) (k : ∀ L m, h.Ns L m → ∃ m', h₁.Ns L m') : h₁.FunFrames base l := by
  obtain ⟨l', hl', hq⟩ := f.fr
  rw [hl] at hl'; cases hl'
  refine funFrames_of fun e he => ⟨(hq e he).1, ?_⟩
  obtain ⟨_, L, h1, h2, _, m, h3⟩ := hq e he
  exact ⟨L, h1, hb L (List.mem_filterMap.mpr ⟨e, he, h1⟩), k L m h3⟩

theorem evalArgs_one {f : Value} {cpos : Pos} {e : Expr} {env : Env} {Q : Args → Shared → Prop} {E : Value → Shared → Prop} (ht : backTo cpos (starEach [e] env) = [(false, eval e env)]) (h : wpAny (model prog w) A (eval e env) (fun u s' => Q ⟨[u], []⟩ s') E s) :
    wpAny (model prog w) A (evalArgs f true (backTo cpos (starEach [e] env)) []) Q E s := by
  rw [ht]
  exact evalArgs_kw rfl (Calls.spliced_cons (wpAny_mono h (fun u s' q => Calls.spliced_nil (wpAny_evalAll_nil q)) fun _ _ e => e))
theorem left_raises {nm : Str} {a : Addr} {va vx vh vk : Value} {lo : Int} {t : Tok} {Q : Value → Shared → Prop} {E : Value → Shared → Prop} (hx : D.fn nm = some (a, fBL)) (hL : Lv (n + 1) A) (hW : D.Ok s.heap) (hF : Free A P s.heap) (hlo : lo < 0) (hl : A.frames = some l)
    (hE : ∀ e s' base a0, Sh s s' → Keep s.heap s'.heap → (∀ b o, s.heap.get? b = some o → b ∉ frs l → Kept base b o) → Heap.FlyingW base l e (.type "ValueError") a0 s'.heap → E (.ref e) s') :
    wpAny (model prog w) A (call (.ref a) [va, vx, .int lo t, vh] [(("key" : Str), vk)]) Q E s := by
  refine call_fn (n := n) (Γ := [⟨"lo", rInt, lo⟩]) hx fits_bl hL hW hF (.inr (.inr ⟨va, vx, _, vh, vk, rfl, rfl⟩)) (fun p hp => ?_) (by simp only [List.map_cons, List.map_nil]; decide) (fun b hb => ?_) fun env s₁ P' hP' hEn hfr t₁ hs₁ => ?_
  · simp only [List.mem_cons, List.not_mem_nil, or_false] at hp
    rcases hp with rfl | rfl | rfl | rfl | rfl <;> (dsimp only; decide)
  · rw [List.mem_singleton.mp hb]
    exact ⟨.int lo t, by simp, t, rfl⟩
  have hL' := hL.deeper env
  refine wpAny_execs_cons (wpAny_If (wpAny_mono (Et.cast (Et.cmp Ev.var Ev.int (op_lt _ _)) (show _ = true by simpa using hlo) (A.deeper env) env s₁ _ hL' hEn t₁.world t₁.free t₁.toVars) (fun c s₂ q => ?_) fun _ _ e => e))
  obtain ⟨k₂, rfl⟩ := q
  have t₂ := t₁.keeps k₂
  simp only [if_true]
  refine wpAny_execs_cons (wpAny_Raise_call PySem.F.excCall_ValueError PySem.F.excRaise_ValueError hL'.1 (by rfl) ?_)
  refine wpAny_mono (Ev.bi (Γ := []) (v := .type "ValueError") (by decide) (by decide) (by decide) (A.deeper env) env s₂ _ hL' hEn t₂.world t₂.free (fun b hb => by cases hb)) (fun v s₃ q => ⟨q.2, ?_⟩) fun _ _ e => e
  have t₃ := t₂.keeps q.1
  refine evalArgs_one rfl (wpAny_mono (Ev.str (Γ := []) (A.deeper env) env s₃ _ hL' hEn t₃.world t₃.free (fun b hb => by cases hb)) (fun u s₄ q₄ => ?_) fun _ _ e => e)
  have t₄ := t₃.keeps q₄.1
  have sh : Sh s s₄ := Sh.trans hs₁ ((Sh.of k₂).trans ((Sh.of q.1).trans (Sh.of q₄.1)))
  refine ⟨rfl, by rw [sizeLine_eq]; show 1 ≤ _; omega, fun h' e hm => ?_⟩
  have hl' : (A.deeper env).frames = some (env :: l) := Around.frames_deeper hl
  obtain ⟨tt, he, _, _⟩ := hm.there
  have hbn : ∀ b ∈ frs (env :: l), (hideAll s₄.heap (frs (env :: l))).get? b = none := fun b hb => hideAll_none _ hb
  have hB : ∀ b o, s.heap.get? b = some o → b ∉ frs l → Kept (hideAll s₄.heap (frs (env :: l))) b o := fun b o e m => by
    refine (t₄.keep b o e).trans fun o' e' => .of (hideAll_get _ e' fun z => ?_)
    rw [frs, List.filterMap_cons, hfr] at z
    rcases List.mem_cons.mp z with z | z
    · have := t₄.own _ (.inl rfl)
      rw [z, this] at e; cases e
    · exact m z
  have st : (hideAll s₄.heap (frs (env :: l))).StaysIn h' := fun b o e => hm.keeps _ _ (of_hideAll _ e)
  refine wpAny_leaving_firstW hl' (frames_of t₄.free hl' hbn fun L m hn => ⟨m, (Keep.of hm.keeps).ns hn⟩) hfr he st ?_ rfl rfl rfl fun h₅ lw => ?_
  · cases z : (hideAll s₄.heap (frs (env :: l))).get? e with
    | none => rfl
    | some o => have := of_hideAll _ z; rw [hm.new] at this; cases this
  obtain ⟨l1, l2, l3, l4⟩ := lw
  refine hE e _ _ _ (sh.trans ⟨h₅, s₄.toks, rfl⟩) (keep_step hF hl (t₄.keep.trans (.of hm.keeps)) hB l1 l4) hB ⟨l1, ?_, l2.2.2, l3⟩
  cases z : (hideAll s₄.heap (frs (env :: l))).get? e with
  | none => rfl
  | some o => have := of_hideAll _ z; rw [hm.new] at this; cases this
theorem right_raises {nm : Str} {a : Addr} {va vx vh vk : Value} {lo : Int} {t : Tok} {Q : Value → Shared → Prop} {E : Value → Shared → Prop} (hx : D.fn nm = some (a, fBR)) (hL : Lv (n + 1) A) (hW : D.Ok s.heap) (hF : Free A P s.heap) (hlo : lo < 0) (hl : A.frames = some l)
    (hE : ∀ e s' base a0, Sh s s' → Keep s.heap s'.heap → (∀ b o, s.heap.get? b = some o → b ∉ frs l → Kept base b o) → Heap.FlyingW base l e (.type "ValueError") a0 s'.heap → E (.ref e) s') :
    wpAny (model prog w) A (call (.ref a) [va, vx, .int lo t, vh] [(("key" : Str), vk)]) Q E s := by
  refine call_fn (n := n) (Γ := [⟨"lo", rInt, lo⟩]) hx fits_br hL hW hF (.inr (.inr ⟨va, vx, _, vh, vk, rfl, rfl⟩)) (fun p hp => ?_) (by simp only [List.map_cons, List.map_nil]; decide) (fun b hb => ?_) fun env s₁ P' hP' hEn hfr t₁ hs₁ => ?_
  · simp only [List.mem_cons, List.not_mem_nil, or_false] at hp
    rcases hp with rfl | rfl | rfl | rfl | rfl <;> (dsimp only; decide)
  · rw [List.mem_singleton.mp hb]
    exact ⟨.int lo t, by simp, t, rfl⟩
  have hL' := hL.deeper env
  refine wpAny_execs_cons (wpAny_If (wpAny_mono (Et.cast (Et.cmp Ev.var Ev.int (op_lt _ _)) (show _ = true by simpa using hlo) (A.deeper env) env s₁ _ hL' hEn t₁.world t₁.free t₁.toVars) (fun c s₂ q => ?_) fun _ _ e => e))
  obtain ⟨k₂, rfl⟩ := q
  have t₂ := t₁.keeps k₂
  simp only [if_true]
  refine wpAny_execs_cons (wpAny_Raise_call PySem.F.excCall_ValueError PySem.F.excRaise_ValueError hL'.1 (by rfl) ?_)
  refine wpAny_mono (Ev.bi (Γ := []) (v := .type "ValueError") (by decide) (by decide) (by decide) (A.deeper env) env s₂ _ hL' hEn t₂.world t₂.free (fun b hb => by cases hb)) (fun v s₃ q => ⟨q.2, ?_⟩) fun _ _ e => e
  have t₃ := t₂.keeps q.1
  refine evalArgs_one rfl (wpAny_mono (Ev.str (Γ := []) (A.deeper env) env s₃ _ hL' hEn t₃.world t₃.free (fun b hb => by cases hb)) (fun u s₄ q₄ => ?_) fun _ _ e => e)
  have t₄ := t₃.keeps q₄.1
  have sh : Sh s s₄ := Sh.trans hs₁ ((Sh.of k₂).trans ((Sh.of q.1).trans (Sh.of q₄.1)))
  refine ⟨rfl, by rw [sizeLine_eq]; show 1 ≤ _; omega, fun h' e hm => ?_⟩
  have hl' : (A.deeper env).frames = some (env :: l) := Around.frames_deeper hl
  obtain ⟨tt, he, _, _⟩ := hm.there
  have hbn : ∀ b ∈ frs (env :: l), (hideAll s₄.heap (frs (env :: l))).get? b = none := fun b hb => hideAll_none _ hb
  have hB : ∀ b o, s.heap.get? b = some o → b ∉ frs l → Kept (hideAll s₄.heap (frs (env :: l))) b o := fun b o e m => by
    refine (t₄.keep b o e).trans fun o' e' => .of (hideAll_get _ e' fun z => ?_)
    rw [frs, List.filterMap_cons, hfr] at z
    rcases List.mem_cons.mp z with z | z
    · have := t₄.own _ (.inl rfl)
      rw [z, this] at e; cases e
    · exact m z
  have st : (hideAll s₄.heap (frs (env :: l))).StaysIn h' := fun b o e => hm.keeps _ _ (of_hideAll _ e)
  refine wpAny_leaving_firstW hl' (frames_of t₄.free hl' hbn fun L m hn => ⟨m, (Keep.of hm.keeps).ns hn⟩) hfr he st ?_ rfl rfl rfl fun h₅ lw => ?_
  · cases z : (hideAll s₄.heap (frs (env :: l))).get? e with
    | none => rfl
    | some o => have := of_hideAll _ z; rw [hm.new] at this; cases this
  obtain ⟨l1, l2, l3, l4⟩ := lw
  refine hE e _ _ _ (sh.trans ⟨h₅, s₄.toks, rfl⟩) (keep_step hF hl (t₄.keep.trans (.of hm.keeps)) hB l1 l4) hB ⟨l1, ?_, l2.2.2, l3⟩
  cases z : (hideAll s₄.heap (frs (env :: l))).get? e with
  | none => rfl
  | some o => have := of_hideAll _ z; rw [hm.new] at this; cases this
end
end Mine
end

section
open PySem PySem.W
set_option Elab.async false
set_option linter.unusedVariables false
set_option linter.unusedSectionVars false
set_option maxRecDepth 10000
open PyProof.Rows
namespace Mine
variable [Lim]

/-- a binder for arguments by place -/
noncomputable def bindPos (names : List Str) (a : Args) (b : List (Str × Value)) : Prop := a.kw = [] ∧ a.pos.length = names.length ∧ b = names.zip a.pos

noncomputable def fRef : Fn := fnOfStm 12 (bindPos ["act", "laid", "low", "high", "key"])
theorem fits_ref : FnFits fRef := ⟨rfl, rfl, rfl, by decide, by decide⟩

section
variable {prog : Program} {w : World} {D : Wd} {sc : Scope} {env : Env} {P : Addr → Prop} {Γ : List Bnd} {n : Nat} {A : Around} {α β : Type} {r : Rel α} {s : Shared} {E : Value → Shared → Prop}

/-- an expression that calls a def: what is left to show of the call -/
theorem call_expr {id : Str} {p pos : Pos} {es : List Expr} {keywords : List Keyword} {names : List Str} {kes : List Expr} {bs ks : List Bv} {x : Str} {a : Addr} {F : Fn} {Q : Value → Shared → Prop} (hf : Ev prog w D n sc Γ P (.Name id p) rVal (.ref a)) (hx : D.fn x = some (a, F))
    (ha : EvA prog w D n sc Γ P es bs) (hk : EvA prog w D n sc Γ P kes ks) (hL : Lv n A) (hE : EnvOk sc env) (hW : D.Ok s.heap) (hF : Free A P s.heap) (hV : Vars P s.heap env Γ) (hne : es ≠ [])
    (hq : ∀ vs kvs s₃, Keeps s s₃ → Are P s₃.heap vs bs → Are P s₃.heap kvs ks → wpAny (model prog w) A (call (.ref a) vs (names.zip kvs)) Q E s₃)
    (ht : ∀ env, backTo pos (starEach es env) = es.map fun e => (false, eval e env) := by intro _; rfl)
    (hkt : ∀ env, backToKw pos (keywordEach keywords env) = (names.zip kes).map fun q => (some q.1, (do let v ← eval q.2 env; standAt pos; pure v)) := by intro _; rfl) (hlen : names.length = kes.length := by rfl) :
    wpAny (model prog w) A (eval (.Call (.Name id p) es keywords pos) env) Q E s := by
  refine wpAny_Call_Name_kw (wpAny_mono (hf A env s E hL hE hW hF hV) (fun v s₁ h₁ => ?_) fun _ _ e => e)
  obtain ⟨k, rfl⟩ := h₁
  have k₁ := keeps_keep k
  obtain ⟨o, fd, ho, hd, _⟩ := (hW.fns x a F hx).ok
  rw [ht, hkt]
  refine callWith_function_kw (o := o) (fd := fd) ?_
  obtain ⟨e, es, rfl⟩ : ∃ e es', es = e :: es' := by cases es with
    | nil => exact absurd rfl hne
    | cons e es => exact ⟨e, es, rfl⟩
  have hzip : ∀ (ns : List Str) (es : List Expr), ns.length = es.length → ((ns.zip es).map fun q : Str × Expr => (some q.1, (do let v ← eval q.2 env; standAt pos; pure v : Sem Value))).map (·.2) = es.map (fun e => (do let v ← eval e env; standAt pos; pure v : Sem Value)) ∧
      ((ns.zip es).map fun q : Str × Expr => (some q.1, (do let v ← eval q.2 env; standAt pos; pure v : Sem Value))).filterMap (·.1) = ns := by
    intro ns
    induction ns with
    | nil => intro es h; cases es with
      | nil => exact ⟨rfl, rfl⟩
      | cons => cases h
    | cons m ns ih => intro es h; cases es with
      | nil => cases h
      | cons e es =>
        have := ih es (by simpa using h)
        rw [List.zip_cons_cons, List.map_cons, List.map_cons, List.map_cons, this.1, List.filterMap_cons]
        exact ⟨rfl, by rw [this.2]⟩
  refine evalArgs_kw (by simp) ?_
  rw [← List.map_cons (f := fun e => (false, eval e env))]
  refine wpAny_mono (spliced_ev hL hE ha (hW.keep k₁) (hF.keep k₁) (hV.keep k₁)) (fun vs s₂ h₂ => ?_) fun _ _ e => e
  have k₂ := k₁.trans (keeps_keep h₂.1)
  rw [(hzip names kes hlen).1, (hzip names kes hlen).2]
  refine wpAny_mono (evalAll_back hL hE hk (hW.keep k₂) (hF.keep k₂) (hV.keep k₂)) (fun kvs s₃ h₃ => ?_) fun _ _ e => e
  have k₃ := k₂.trans (keeps_keep h₃.1)
  refine ⟨⟨k₃.get ho (not_fra fun _ _ z => by rw [hd] at z; cases z), hd⟩, ?_⟩
  exact hq vs kvs s₃ (keeps_trans k (keeps_trans h₂.1 h₃.1)) (h₂.2.keep (keeps_keep h₃.1)) h₃.2
theorem keep_of_slots {h h₁ h₂ base : Heap} {l : List Env} (f : Free A P h) (hl : A.frames = some l) (k : Keep h h₁) (hB : ∀ b o, h.get? b = some o → b ∉ frs l → Kept base b o) (st : base.StaysIn h₂) (hn : ∀ b o, h₁.get? b = some o → (∀ vs, o.data ≠ .fields vs) → h₂.get? b = some o) : Keep h h₂ :=
  keep_step f hl k hB st fun b o e nf => ⟨o.slots, hn b o e nf⟩

theorem refused_call {nm nr : Str} {a ar : Addr} {vlaid vh vk : Value} {lo : Int} {t : Tok} {F : Fn} (hxr : D.fn nr = some (ar, fRef)) (hx : D.fn nm = some (a, F)) (hF₂ : F = fBL ∨ F = fBR) (hL : Lv (n + 2) A) (hW : D.Ok s.heap) (hF : Free A P s.heap) (hlo : lo < 0) :
    wpAny (model prog w) A (call (.ref ar) [.ref a, vlaid, .int lo t, vh, vk] []) (fun v s' => Keeps s s' ∧ rBool.is P s'.heap v true) E s := by
  obtain ⟨l, hl, _⟩ := hF.fr
  refine call_fn (n := n + 1) (Γ := [⟨"act", rVal, .ref a⟩, ⟨"laid", rVal, vlaid⟩, ⟨"low", rInt, lo⟩, ⟨"high", rVal, vh⟩, ⟨"key", rVal, vk⟩]) hxr fits_ref hL hW hF ⟨rfl, rfl, rfl⟩ (fun p hp => ?_) (by simp only [List.map_cons, List.map_nil, List.zip_cons_cons, List.zip_nil_right]; decide) (fun b hb => ?_) fun env s₁ P' hP' hEn hfr t₁ hs₁ => ?_
  · simp only [List.zip_cons_cons, List.zip_nil_right, List.mem_cons, List.not_mem_nil, or_false] at hp
    rcases hp with rfl | rfl | rfl | rfl | rfl <;> (dsimp only; decide)
  · simp only [List.mem_cons, List.not_mem_nil, or_false] at hb
    rcases hb with rfl | rfl | rfl | rfl | rfl
    · exact ⟨_, .head _, rfl⟩
    · exact ⟨_, .tail _ (.head _), rfl⟩
    · exact ⟨_, .tail _ (.tail _ (.head _)), t, rfl⟩
    · exact ⟨_, .tail _ (.tail _ (.tail _ (.head _))), rfl⟩
    · exact ⟨_, .tail _ (.tail _ (.tail _ (.tail _ (.head _)))), rfl⟩
  have hL' := hL.deeper env
  have hl' : (A.deeper env).frames = some (env :: l) := Around.frames_deeper hl
  refine wpAny_execs_cons (wpAny_Try_except (wpAny_execs_cons (wpAny_Expr_any (call_expr (names := ["key"]) (bs := [⟨rVal, vlaid⟩, ⟨rInt, (0 : Int)⟩, ⟨rInt, lo⟩, ⟨rVal, vh⟩]) (ks := [⟨rVal, vk⟩]) (kes := [_]) Ev.var hx ⟨Ev.var, Ev.int, Ev.var, Ev.var, trivial⟩ ⟨Ev.var, trivial⟩ hL' hEn t₁.world t₁.free t₁.toVars (by simp) fun vs kvs s₃ k₃ hvs hkvs => ?_) (not_interactive hEn) rfl)))
  have t₃ := t₁.keeps k₃
  have hraise : ∀ {Q : Value → Shared → Prop} {E : Value → Shared → Prop}, (∀ e s' base a0, Sh s₃ s' → Keep s₃.heap s'.heap → (∀ b o, s₃.heap.get? b = some o → b ∉ frs (env :: l) → Kept base b o) → Heap.FlyingW base (env :: l) e (.type "ValueError") a0 s'.heap → E (.ref e) s') →
      wpAny (model prog w) (A.deeper env) (call (.ref a) vs ((["key"] : List Str).zip kvs)) Q E s₃ := by
    intro Q E hE
    cases hkvs with
    | @cons vk' _ _ _ _ hkvs =>
    cases hkvs
    cases hvs with
    | @cons va _ _ _ _ hvs => cases hvs with
      | @cons vx _ _ _ _ hvs => cases hvs with
        | @cons vl _ _ _ h3 hvs => cases hvs with
          | @cons vh' _ _ _ _ hvs =>
            cases hvs
            obtain ⟨t', rfl⟩ := h3
            rcases hF₂ with rfl | rfl
            · exact left_raises hx hL' t₃.world t₃.free hlo hl' hE
            · exact right_raises hx hL' t₃.world t₃.free hlo hl' hE
  refine hraise fun e s' base a0 sh k hB fl => ?_
  obtain ⟨st, hen, hff, tr⟩ := fl
  refine wpAny_noteFrame_onW hl' hff hfr tr st hen fun h₁ hN => ?_
  obtain ⟨n1, n2, n3, n4⟩ := hN
  have kA : Keep s₃.heap h₁ := keep_step t₃.free hl' k hB n1 n4
  refine wpAny_setFlight_noneW n1 n2 n3 fun h₂ m1 m2 m3 m4 => ?_
  have kB : Keep s₃.heap h₂ := keep_of_slots t₃.free hl' kA hB m1 m4
  have hW₂ := t₃.world.keep kB
  refine wpAny_handleBy_builtin (X := "ValueError") (T := "ValueError") (b := true) (isSubtype_of_subB (by decide +kernel)) (isSubtype_of_subB (by decide +kernel)) (isSubtype_of_subB (by decide +kernel)) ?_
  have hbv := D.bl ("ValueError", .type "ValueError") (by decide)
  refine Calls.Name_function_global hEn.kind (hEn.gl _ (by decide)) (Calls.loadGlobal_builtin (hEn.glob ▸ hW₂.g) hbv.1 (hEn.bi ▸ hW₂.b) hbv.2 ⟨rfl, ?_, ?_⟩) (by decide)
  · obtain ⟨oe, _, _, _, _, he, hc, _⟩ := m3
    exact ⟨oe, he, hc.1⟩
  simp only [if_true]
  refine wpAny_setFlight_noneW m1 m2 m3.at fun h₄ p1 p2 p3 p4 => ?_
  have kC : Keep s₃.heap h₄ := keep_of_slots t₃.free hl' kB hB p1 p4
  refine wpAny_execs_cons (wpAny_Return_some (wpAny_Constant_bool ⟨?_, rfl⟩))
  obtain ⟨h', tk, e'⟩ := Sh.trans hs₁ ((Sh.of k₃).trans (Sh.trans sh ⟨h₄, s'.toks, rfl⟩))
  have hh : h₄ = h' := congrArg Shared.heap e'
  exact ⟨h', tk, e', hh ▸ t₃.keep.trans kC⟩
end
end Mine
end

section
open PySem PySem.W
set_option Elab.async false
set_option linter.unusedVariables false
set_option linter.unusedSectionVars false
set_option maxRecDepth 10000
open PyProof.Rows
namespace Mine
variable [Lim]

noncomputable def ins (x : Int) : List Int → List Int
  | [] => [x]
  | y :: ys => if x ≤ y then x :: y :: ys else y :: ins x ys
noncomputable def isort : List Int → List Int
  | [] => []
  | x :: xs => ins x (isort xs)
theorem ins_perm (x : Int) : ∀ l, (ins x l).Perm (x :: l)
  | [] => .refl _
  | y :: ys => by
    unfold ins
    split
    · exact .refl _
    · exact ((ins_perm x ys).cons y).trans (.swap x y ys)
theorem isort_perm : ∀ l, (isort l).Perm l
  | [] => .refl _
  | x :: xs => (ins_perm x _).trans ((isort_perm xs).cons x)
theorem ins_sorted (x : Int) : ∀ l, l.Pairwise (· ≤ ·) → (ins x l).Pairwise (· ≤ ·)
  | [], _ => by simp [ins]
  | y :: ys, h => by
    rw [List.pairwise_cons] at h
    unfold ins
    split
    · rename_i c
      refine List.Pairwise.cons (fun z hz => ?_) (List.Pairwise.cons h.1 h.2)
      rcases List.mem_cons.mp hz with rfl | hz
      · exact c
      · exact Int.le_trans c (h.1 z hz)
    · rename_i c
      refine List.Pairwise.cons (fun z hz => ?_) (ins_sorted x ys h.2)
      rcases List.mem_cons.mp ((ins_perm x ys).mem_iff.mp hz) with rfl | hz
      · omega
      · exact h.1 z hz
theorem isort_sorted : ∀ l, (isort l).Pairwise (· ≤ ·)
  | [] => .nil
  | x :: xs => ins_sorted x _ (isort_sorted xs)
theorem isort_length (l : List Int) : (isort l).length = l.length := (isort_perm l).length_eq

theorem ints_paired {P : Addr → Prop} {h : Heap} : ∀ {vs : List Value} {xs : List Int}, Paired (rInt.is P h) vs xs → IntsAre vs xs
  | _, _, .nil => .nil
  | _, _, .cons a t => by
    obtain ⟨u, rfl⟩ := a
    exact .cons _ u (ints_paired t)
theorem paired_ints {P : Addr → Prop} {h : Heap} : ∀ {vs : List Value} {xs : List Int}, IntsAre vs xs → Paired (rInt.is P h) vs xs
  | _, _, .nil => .nil
  | _, _, .cons _ t h => .cons ⟨t, rfl⟩ (paired_ints h)

section
variable {prog : Program} {w : World} {D : Wd} {P : Addr → Prop} {n : Nat} {sc : Scope} {Γ : List Bnd}

theorem op_sorted (xs : List Int) (hfit : xs.length < 64) : Op1 prog w D n P (fun v => call (.builtin "sorted") [v]) (rRoot rInt) xs (rList rInt) (isort xs) := by
  rintro A s E v hL hW hF ⟨a, items, rfl, hl, i₁⟩
  have nl : items.toList.length = xs.length := i₁.length
  have hI := ints_paired i₁
  refine sorted_ints (vs := items.toList) (ns := xs) (by simpa using hl) hI (by rw [nl]; exact hfit) fun out ns' h1 h2 h3 => ?_
  have e : ns' = isort xs := ksm_same (h2.trans (isort_perm xs).symm) h3 (isort_sorted xs)
  subst e
  obtain ⟨ep, he⟩ := sortedAll_at s.heap items.toList out
  refine ⟨⟨_, s.toks, rfl, .of fun b o e => sortedAll_old e⟩, _, out, rfl, ?_, ⟨_, he, rfl, _, rfl⟩, paired_ints h1⟩
  apply Classical.byContradiction
  intro hn
  obtain ⟨o, ho⟩ := hF.at _ hn
  exact absurd (Heap.lt_size ho) (Nat.not_lt.mpr (Nat.le_succ _))
theorem Ev.sorted {xs : List Int} {e : Expr} {p pos : Pos} (he : Ev prog w D n sc Γ P e (rRoot rInt) xs) (hfit : xs.length < 64)
    (hx : sc.names.lookup ("sorted" : Str) = some .globalImplicit := by decide) (ht : ∀ env, backTo pos (starEach [e] env) = [(false, eval e env)] := by intro _; rfl) :
    Ev prog w D n sc Γ P (.Call (.Name "sorted" p) [e] [] pos) (rList rInt) (isort xs) := Ev.callB (by decide) he (op_sorted xs hfit) hx (by decide) ht

noncomputable def fMed : Fn := fnOfStm 5 (bindPos ["data"])
noncomputable def fLow : Fn := fnOfStm 6 (bindPos ["data"])
noncomputable def fHigh : Fn := fnOfStm 7 (bindPos ["data"])
theorem fits_med : FnFits fMed := ⟨rfl, rfl, rfl, by decide, by decide⟩
theorem fits_low : FnFits fLow := ⟨rfl, rfl, rfl, by decide, by decide⟩
theorem fits_high : FnFits fHigh := ⟨rfl, rfl, rfl, by decide, by decide⟩

noncomputable def medLow (xs : List Int) : Int := if xs.length % 2 = 1 then (isort xs).getD (xs.length / 2) 0 else (isort xs).getD (xs.length / 2 - 1) 0
noncomputable def medHigh (xs : List Int) : Int := (isort xs).getD (xs.length / 2) 0

/-- the names' list of one argument -/
theorem one_arg {F : Fn} {x : Str} {β : Type} {r : Rel β} {y : β} (hF : F.bind = bindPos [x]) (hst : Stor F.scope x) : ∀ vs kvs (h : Heap) (P : Addr → Prop), Are P h vs [⟨r, y⟩] → Are P h kvs [] →
    ∃ binds, F.bind ⟨vs, ([] : List Str).zip kvs⟩ binds ∧ (∀ p ∈ binds, Stor F.scope p.1) ∧ (binds.map (·.1)).Nodup ∧ ∀ b ∈ ([⟨x, r, y⟩] : List Bnd), ∃ v, (b.name, v) ∈ binds ∧ b.r.is P h v b.x := by
  intro vs kvs h P hvs hkvs
  cases hkvs
  cases hvs with
  | @cons v _ _ _ h1 hvs =>
    cases hvs
    refine ⟨[(x, v)], by rw [hF]; exact ⟨rfl, rfl, rfl⟩, fun p hp => ?_, by simp, fun b hb => ?_⟩
    · rw [List.mem_singleton.mp hp]; exact hst
    · rw [List.mem_singleton.mp hb]; exact ⟨v, .head _, h1⟩

theorem getD_some {xs : List Int} {i : Nat} (h : i < xs.length) : xs[i]? = some (xs.getD i 0) := by
  rw [List.getD_eq_getElem?_getD, List.getElem?_eq_getElem h]; rfl

theorem low_call {nm : Str} {a : Addr} {xs : List Int} (hx : D.fn nm = some (a, fLow)) (h0 : 0 < xs.length) (hsz : xs.length < 64) :
    CallsTo prog w D (n + 1) P (.ref a) [⟨rRoot rInt, xs⟩] [] [] rInt (medLow xs) := by
  refine ret_call hx fits_low (one_arg rfl (by decide)) fun P => ?_
  refine Ret.step (Γ' := [⟨"data", rList rInt, isort xs⟩]) (M' := []) (Ex.assign Seen.self (Ev.sorted Ev.var hsz) (solid_list solid_int) (by decide) fun c hc => .inl (List.mem_singleton.mp hc)) ?_
  refine Ret.step (Γ' := [⟨"n", rInt, (xs.length : Int)⟩, ⟨"data", rList rInt, isort xs⟩]) (M' := []) (Ex.assign Seen.self (Ev.cast (Ev.len (Ev.root Ev.var) (by rw [isort_length]; omega)) (by rw [isort_length])) solid_int (by decide) fun c hc => ?_) ?_
  · rcases List.mem_cons.mp hc with q | hc
    · exact .inl q
    · rw [List.mem_singleton.mp hc]; exact .inr ⟨.head _, by dsimp only; decide⟩
  refine Ret.step (Ex.ifNot Seen.self (Et.cast (Et.cmp Ev.var Ev.int (op_eq _ _)) (by rw [beq_eq_false_iff_ne]; omega))) ?_
  by_cases c : xs.length % 2 = 1
  · refine Ret.ifRet Seen.self (Et.cast (Et.cmp (Ev.bin Ev.var Ev.int (op_mod _ 2 (by decide))) Ev.int (op_eq _ _)) (by rw [beq_iff_eq, Int.fmod_eq_emod_of_nonneg _ (by decide)]; omega)) ?_
    refine Ret.ret Seen.self (Ev.idx (Ev.root Ev.var) (Ev.cast (y := ((xs.length / 2 : Nat) : Int)) (Ev.bin Ev.var Ev.int (op_floordiv (xs.length : Int) 2 (by decide) (PyProof.noPylong_small (by omega)))) ?_) (by omega) (by omega) ?_)
    · rw [Int.fdiv_eq_ediv_of_nonneg _ (by decide)]; omega
    · rw [Int.toNat_natCast, getD_some (by rw [isort_length]; omega), medLow, if_pos c]
  · refine Ret.elseRet Seen.self (Et.cast (Et.cmp (Ev.bin Ev.var Ev.int (op_mod _ 2 (by decide))) Ev.int (op_eq _ _)) (by rw [beq_eq_false_iff_ne, Int.fmod_eq_emod_of_nonneg _ (by decide)]; omega)) ?_
    refine Ret.ret Seen.self (Ev.idx (Ev.root Ev.var) (Ev.cast (y := ((xs.length / 2 - 1 : Nat) : Int)) (Ev.bin (Ev.bin Ev.var Ev.int (op_floordiv (xs.length : Int) 2 (by decide) (PyProof.noPylong_small (by omega)))) Ev.int (op_sub _ _)) ?_) (by omega) (by omega) ?_)
    · rw [Int.fdiv_eq_ediv_of_nonneg _ (by decide)]; omega
    · rw [Int.toNat_natCast, getD_some (by rw [isort_length]; omega), medLow, if_neg c]
end
end Mine
end

section
open PySem PySem.W
set_option Elab.async false
set_option linter.unusedVariables false
set_option linter.unusedSectionVars false
set_option maxRecDepth 10000
open PyProof.Rows
namespace Mine
variable [Lim]
section
variable {prog : Program} {w : World} {D : Wd} {sc : Scope} {env : Env} {P : Addr → Prop} {Γ Θ : List Bnd} {M : List Mu} {n : Nat} {A : Around} {α β γ : Type} {r : Rel α} {r' : Rel β} {s : Shared} {E : Value → Shared → Prop}

theorem new_done {s : Shared} {r : Rel α} {vs : List Value} {xs : List α} {cl : Obj} (hF : Free A P s.heap) (hc : cl = { cls := .type "list", data := .seq vs.toArray }) (hi : Paired (r.is P s.heap) vs xs) :
    Done P s s.heap.objs.size r xs { s with heap := s.heap.push cl } := by
  subst hc
  have k : Keep s.heap (s.heap.push { cls := .type "list", data := .seq vs.toArray }) := .of fun b o e => Heap.get?_push_of_some _ e
  exact ⟨keeps_mk k, get_size _, hF.new, vs.toArray, ⟨_, Heap.get?_push_size _ rfl⟩, by simpa using paired_imp (fun _ _ y => r.mono (fun b o p e => ⟨p, Nat.ne_of_lt (Heap.lt_size e)⟩) k y) hi⟩
theorem Done.after {acc : Addr} {ys : List β} {s s₁ s' : Shared} (k : Keeps s s₁) (d : Done P s₁ acc r' ys s') : Done P s acc r' ys s' := by
  obtain ⟨k', hn, pa, q⟩ := d
  refine ⟨keeps_trans k k', ?_, pa, q⟩
  cases z : s.heap.get? acc with
  | none => rfl
  | some o => obtain ⟨o', ho'⟩ := (keeps_keep k acc o z).alive; rw [hn] at ho'; cases ho'
theorem EvNew.nil {pos : Pos} : EvNew prog w D n sc Γ P (.List [] pos) r' [] := by
  intro A env s E hL hE hW hF hV
  refine wpAny_List (wpAny_mono (spliced_ev (bs := []) (es := []) hL hE trivial hW hF hV) (fun vs s₁ h₁ => ?_) fun _ _ e => e)
  obtain ⟨k, a⟩ := h₁
  cases a
  exact ⟨by rw [sizeLine_eq]; show 0 ≤ _; omega, _, rfl, (new_done (vs := []) (hF.keep (keeps_keep k)) rfl .nil).after k⟩
theorem mul_new {s : Shared} {A : Around} {E : Value → Shared → Prop} {v u : Value} (r : Rel α) (xs : List α) (k : Int) (hlo : -(2 ^ 63 : Int) ≤ k) (hhi : k < 2 ^ 63) (hsz : xs.length * k.toNat ≤ 2 ^ 24)  (hF : Free A P s.heap) (hv : (rRoot r).is P s.heap v xs) (hu : rInt.is P s.heap u k) :
    wpAny (model prog w) A (binaryOp .Mult v u) (fun v s' => ∃ acc, v = .ref acc ∧ Done P s acc r (List.replicate k.toNat xs).flatten s') E s := by
  obtain ⟨a, items, rfl, hl, i₁⟩ := hv
  obtain ⟨t, rfl⟩ := hu
  have n₁ : items.size = xs.length := by have := i₁.length; simpa using this
  obtain ⟨⟨cls, dd, data, sl⟩, ho, hc, kk, hd⟩ := id hl
  simp only at hc hd
  subst hc hd
  refine wpAny_binaryOp_repeat_ref (T := "list") (U := "int") (by decide) ⟨_, ho, rfl⟩ (fun s' => typeIs_int s' k t) noFill_list_mul F.fills_int_mul F.slot_int_rmul repeat_list F.slot_int_index.lookup
    (call_meets F.slot_int_rmul (typeIs_int s k t) F.entry_int_rmul (F.args_int_rmul_2 _ _) (lm_int_rmul_list_any k t a items kk dd sl)
      ⟨ho, rfl, ⟨_, ho, rfl⟩, call_meets F.slot_list_mul ⟨_, ho, rfl⟩ F.entry_list_mul (F.args_list_mul_2 _ _)
        (lm_list_mul_any a items kk dd sl k t (by simp [Builtin.List.listFitsIndex]; omega) (by rw [n₁]; omega) (by rw [n₁]; simp [Builtin.List.listTooLong, sizeLine]; omega))
        ⟨ho, ?_⟩⟩)
  have hrep : Paired (r.is P s.heap) (List.replicate k.toNat items.toList).flatten (List.replicate k.toNat xs).flatten := by
    generalize k.toNat = m
    induction m with
    | zero => exact .nil
    | succ m ih => rw [List.replicate_succ, List.flatten_cons, List.replicate_succ, List.flatten_cons]; exact paired_append i₁ ih
  have z := new_done (s := s) (r := r) (vs := (List.replicate k.toNat items.toList).flatten) hF rfl hrep
  have e : List.foldl (fun x1 x2 => x1 ++ x2) #[] (List.replicate (if items.isEmpty = true then 0 else k.toNat) items) = (List.replicate k.toNat items.toList).flatten.toArray := by
    have := PyProof.Rows.listMul_foldl_if (items := items.toList.toArray) (k := k.toNat)
    simpa using this
  rw [← e] at z
  exact ⟨_, rfl, z⟩

theorem EvNew.mul {l e : Expr} {xs : List β} {k : Int} {pos : Pos} (hl : Ev prog w D n sc Γ P l (rRoot r') xs) (he : Ev prog w D n sc Γ P e rInt k) (hlo : -(2 ^ 63 : Int) ≤ k) (hhi : k < 2 ^ 63) (hsz : xs.length * k.toNat ≤ 2 ^ 24) :
    EvNew prog w D n sc Γ P (.BinOp l .Mult e pos) r' (List.replicate k.toNat xs).flatten := by
  intro A env s E hL hE hW hF hV
  refine wpAny_BinOp (wpAny_mono (hl A env s E hL hE hW hF hV) (fun v s₁ h₁ => ?_) fun _ _ e => e)
  have k₁ := keeps_keep h₁.1
  refine wpAny_mono (he A env s₁ E hL hE (hW.keep k₁) (hF.keep k₁) (hV.keep k₁)) (fun u s₂ h₂ => ?_) fun _ _ e => e
  have k₂ := keeps_keep h₂.1
  exact wpAny_mono (mul_new r' xs k hlo hhi hsz ((hF.keep k₁).keep k₂) ((rRoot r').keep k₂ h₁.2) h₂.2) (fun v s₃ ⟨acc, e, d⟩ => ⟨acc, e, d.after (keeps_trans h₁.1 h₂.1)⟩) fun _ _ e => e

/-- a block goes on in a narrower P -/
theorem Ret.narrow {P P' : Addr → Prop} {M : List Mu} {sts : List Stmt} {g : Heap} {y : α} (hP : ∀ b, P' b → P b) {f : Flow} {s s' s'' : Shared} (h : Sh s s') (q : ∃ v, f = .ret v ∧ Keep g s''.heap ∧ Sh s' s'' ∧ r.is (Out P' g) s''.heap v y) :
    ∃ v, f = .ret v ∧ Keep g s''.heap ∧ Sh s s'' ∧ r.is (Out P g) s''.heap v y := by
  obtain ⟨v, a, b, c, d⟩ := q
  exact ⟨v, a, b, h.trans c, r.weak (fun b o p _ => p.imp (hP b) id) d⟩
theorem Ret.new {Γ' : Addr → List Bnd} {x : Str} {p pos : Pos} {e : Expr} {ys : List β} {sts : List Stmt} {y : α} (hs : Seen Γ M Θ) (h : EvNew prog w D n sc Θ P e r' ys) (sr' : Solid r') (hx : Stor sc x) (hΓ : ∀ a, ∀ b ∈ Γ' a, b = ⟨x, rAddr, a⟩ ∨ (b ∈ Γ ∧ b.name ≠ x))
    (k : ∀ a P', (∀ b, P' b → P b) → Ret prog w D n sc P' (Γ' a) (⟨a, r', ys⟩ :: M) sts r y) (hw : ∀ env, swapsWith e (some (.Name x p)) pos.line env = pure false := by intro _; rfl) :
    Ret prog w D n sc P Γ M (.Assign [.Name x p] e pos :: sts) r y := by
  intro A g env s E hL hE t
  refine wpAny_execs_cons (wpAny_Assign_Name (wpAny_mono (h A env s E hL hE t.world t.free (t.seen hs)) (fun v s₁ q => ?_) fun _ _ e => e) (hw env))
  obtain ⟨acc, rfl, k₁, hn, pa, items, hl, hp⟩ := q
  refine wpAny_mono ((t.make k₁ sr' hn hl hp).bind (Γ' := Γ' acc) hE hx (.inl (rfl : rAddr.is _ g (.ref acc) acc)) (hΓ acc)) (fun _ s' q => ?_) fun _ _ e => e
  exact wpAny_mono (k acc _ (fun b p => p.1) A g env s' E hL hE q.1) (fun f s'' z => Ret.narrow (M := M) (sts := sts) (fun b p => p.1) ((Sh.of k₁).trans q.2.1) z) fun _ _ e => e
theorem Ret.comp {sc' : Scope} {Γ' : Addr → List Bnd} {x : Str} {p pos cpos : Pos} {elt target iter : Expr} {ifs : List Expr} {rest : List Comprehension} {ys : List β} {sts : List Stmt} {y : α} (hs : Seen Γ M Θ)
    (h : CompRun prog w D n sc sc' Θ P (.ListComp elt (⟨target, iter, ifs, 0⟩ :: rest) sc' cpos) iter (firstIterPos (⟨target, iter, ifs, 0⟩ :: rest) cpos) r' ys) (sr' : Solid r') (hx : Stor sc x) (hΓ : ∀ a, ∀ b ∈ Γ' a, b = ⟨x, rAddr, a⟩ ∨ (b ∈ Γ ∧ b.name ≠ x))
    (k : ∀ a P', (∀ b, P' b → P b) → Ret prog w D n sc P' (Γ' a) (⟨a, r', ys⟩ :: M) sts r y) :
    Ret prog w D n sc P Γ M (.Assign [.Name x p] (.ListComp elt (⟨target, iter, ifs, 0⟩ :: rest) sc' cpos) pos :: sts) r y := by
  intro A g env s E hL hE t
  refine wpAny_execs_cons (exec_make t hL hE hs h sr' hx fun a s' t' c => ?_)
  exact wpAny_mono (k a _ (fun b p => p.1) A g env s' E hL hE (t' _ (hΓ a))) (fun f s'' z => Ret.narrow (M := M) (sts := sts) (fun b p => p.1) c z) fun _ _ e => e
end
end Mine
end

section
open PySem PySem.W
set_option Elab.async false
set_option linter.unusedVariables false
set_option linter.unusedSectionVars false
set_option maxRecDepth 10000
open PyProof.Rows
namespace Mine
variable [Lim]
section
variable {prog : Program} {w : World} {D : Wd} {sc : Scope} {env : Env} {P : Addr → Prop} {Γ Γ' Θ : List Bnd} {M : List Mu} {n : Nat} {A : Around} {α β γ : Type} {r : Rel α} {r' : Rel β} {r₂ : Rel γ} {s : Shared} {E : Value → Shared → Prop}

noncomputable abbrev bvs (bs : List Bnd) : List Bv := bs.map fun b => ⟨b.r, b.x⟩
theorem helds_of {g h : Heap} : ∀ {bs : List Bnd} {vs : List Value}, Are P h vs (bvs bs) → (∀ b ∈ bs, Solid b.r) → Helds g P h vs bs
  | [], _, .nil, _ => trivial
  | b :: bs, _, .cons a t, hs => ⟨.inr ⟨hs b (.head _), a⟩, helds_of t fun b hb => hs b (.tail _ hb)⟩

/-- several names at once, by values that are borne -/
theorem Ex.tuple {xs : List (Str × Pos)} {es : List Expr} {bs : List Bnd} {k k' : Nat} {p p' pos : Pos} (hs : Seen Γ M Θ) (ha : EvA prog w D n sc Θ P es (bvs bs)) (sr : ∀ b ∈ bs, Solid b.r) (hn : bs.map (·.name) = xs.map (·.1))
    (hst : ∀ x ∈ xs, Stor sc x.1) (hnd : (xs.map (·.1)).Nodup) (hlen : es.length ≤ 100) (hc : es.all (constantsAlone 8) = false) (hΓ : ∀ b ∈ Γ', b ∈ bs ∨ (b ∈ Γ ∧ b.name ∉ xs.map (·.1)))
    (ht : ∀ env, backTo p' (starEach es env) = es.map fun e => (false, eval e env) := by intro _; rfl) :
    Ex prog w D n sc P Γ M (.Assign [.Tuple (xs.map fun x => .Name x.1 x.2) k p] (.Tuple es k' p') pos) Γ' M := by
  intro A g env s E hL hE t
  refine exec_tuple (D := D) (g := g) hL hE hc ht hst hnd hlen (wpAny_mono (spliced_ev hL hE ha t.world t.free (t.seen hs)) (fun vs s₁ q => ?_) fun _ _ e => e)
  obtain ⟨k₁, a⟩ := q
  have hl : ∀ {es : List Expr} {bs : List Bv}, EvA prog w D n sc Θ P es bs → es.length = bs.length := by
    intro es
    induction es with
    | nil => intro bs h; cases bs with
      | nil => rfl
      | cons => exact h.elim
    | cons e es ih => intro bs h; cases bs with
      | nil => exact h.elim
      | cons b bs => rw [List.length_cons, List.length_cons, ih h.2]
  refine ⟨P, Γ.filter fun b => decide (b.name ∉ xs.map (·.1)), M, bs, by rw [a.length, hl ha], (t.keeps k₁).sub fun b hb => (List.mem_filter.mp hb).1, helds_of a sr, hn, fun b hb c hc e => ?_, fun s' hs' c => ⟨rfl, hs' Γ' fun b hb => ?_, (Chx.keeps k₁).trans (chx_own c)⟩⟩
  · have := (List.mem_filter.mp hc).2
    rw [decide_eq_true_eq, e, ← hn] at this
    exact this (List.mem_map_of_mem hb)
  · rcases hΓ b hb with q | q
    · exact .inl q
    · exact .inr (List.mem_filter.mpr ⟨q.1, by simpa using q.2⟩)

theorem Seen.more {m : Mu} (h : Seen Γ M Θ) : Seen Γ (m :: M) Θ := fun b hb => (h b hb).imp id fun ⟨nm, m', hm, q⟩ => ⟨nm, m', .tail _ hm, q⟩

/-- two new lists -/
theorem Ret.tupleNew2 {Γ' : Addr → Addr → List Bnd} {x₁ x₂ : Str} {p₁ p₂ : Pos} {e₁ e₂ : Expr} {ys : List β} {zs : List γ} {k k' : Nat} {p p' pos : Pos} {sts : List Stmt} {y : α} (hs : Seen Γ M Θ) (h₁ : EvNew prog w D n sc Θ P e₁ r' ys) (h₂ : ∀ P', EvNew prog w D n sc Θ P' e₂ r₂ zs) (sr' : Solid r') (sr₂ : Solid r₂)
    (hx₁ : Stor sc x₁) (hx₂ : Stor sc x₂) (hne : x₁ ≠ x₂) (hc : [e₁, e₂].all (constantsAlone 8) = false) (hΓ : ∀ a b, ∀ c ∈ Γ' a b, c = ⟨x₁, rAddr, a⟩ ∨ c = ⟨x₂, rAddr, b⟩ ∨ (c ∈ Γ ∧ c.name ≠ x₁ ∧ c.name ≠ x₂))
    (hk : ∀ a b P', (∀ c, P' c → P c) → Ret prog w D n sc P' (Γ' a b) (⟨b, r₂, zs⟩ :: ⟨a, r', ys⟩ :: M) sts r y)
    (ht : ∀ env, backTo p' (starEach [e₁, e₂] env) = [e₁, e₂].map fun e => (false, eval e env) := by intro _; rfl) :
    Ret prog w D n sc P Γ M (.Assign [.Tuple [.Name x₁ p₁, .Name x₂ p₂] k p] (.Tuple [e₁, e₂] k' p') pos :: sts) r y := by
  intro A g env s E hL hE t
  refine wpAny_execs_cons (exec_tuple (D := D) (g := g) (xs := [(x₁, p₁), (x₂, p₂)]) hL hE hc ht (fun x hx => ?_) (by simp [hne]) (by show 2 ≤ 100; omega) ?_)
  · rcases List.mem_cons.mp hx with rfl | hx
    · exact hx₁
    · rw [List.mem_singleton.mp hx]; exact hx₂
  refine Calls.spliced_cons (wpAny_mono (h₁ A env s E hL hE t.world t.free (t.seen hs)) (fun v s₁ q => ?_) fun _ _ e => e)
  obtain ⟨a, rfl, k₁, hn, pa, items, hl, hp⟩ := q
  have t₁ := t.make k₁ sr' hn hl hp
  refine Calls.spliced_cons (wpAny_mono (h₂ _ A env s₁ E hL hE t₁.world t₁.free (t₁.seen hs.more)) (fun v s₂ q => Calls.spliced_nil ?_) fun _ _ e => e)
  obtain ⟨b, rfl, k₂, hn₂, pb, items₂, hl₂, hp₂⟩ := q
  have t₂ := t₁.make k₂ sr₂ hn₂ hl₂ hp₂
  refine ⟨_, Γ.filter fun c => decide (c.name ≠ x₁ ∧ c.name ≠ x₂), _, [⟨x₁, rAddr, a⟩, ⟨x₂, rAddr, b⟩], rfl, t₂.sub fun c hc => (List.mem_filter.mp hc).1, ⟨.inl rfl, .inl rfl, trivial⟩, rfl, fun c hc d hd e => ?_, fun s' hs' c => ?_⟩
  · have := (List.mem_filter.mp hd).2
    rw [decide_eq_true_eq] at this
    rcases List.mem_cons.mp hc with rfl | hc
    · exact this.1 e
    · rw [List.mem_singleton.mp hc] at e; exact this.2 e
  · refine wpAny_mono (hk a b _ (fun c p => p.1.1) A g env s' E hL hE (hs' (Γ' a b) fun c hc => ?_)) (fun f s'' z => Ret.narrow (M := M) (sts := sts) (fun c p => p.1.1) ((Sh.of k₁).trans ((Sh.of k₂).trans c.1)) z) fun _ _ e => e
    rcases hΓ a b c hc with q | q | q
    · exact .inl (q ▸ .head _)
    · exact .inl (q ▸ .tail _ (.head _))
    · exact .inr (List.mem_filter.mpr ⟨q.1, by simpa using q.2⟩)

/-- a new list, and a value -/
theorem Ret.tupleNew1 {Γ' : Addr → List Bnd} {x₁ x₂ : Str} {p₁ p₂ : Pos} {e₁ e₂ : Expr} {ys : List β} {z : γ} {k k' : Nat} {p p' pos : Pos} {sts : List Stmt} {y : α} (hs : Seen Γ M Θ) (h₁ : EvNew prog w D n sc Θ P e₁ r' ys) (h₂ : ∀ P', Ev prog w D n sc Θ P' e₂ r₂ z) (sr' : Solid r') (sr₂ : Solid r₂)
    (hx₁ : Stor sc x₁) (hx₂ : Stor sc x₂) (hne : x₁ ≠ x₂) (hc : [e₁, e₂].all (constantsAlone 8) = false) (hΓ : ∀ a, ∀ c ∈ Γ' a, c = ⟨x₁, rAddr, a⟩ ∨ c = ⟨x₂, r₂, z⟩ ∨ (c ∈ Γ ∧ c.name ≠ x₁ ∧ c.name ≠ x₂))
    (hk : ∀ a P', (∀ c, P' c → P c) → Ret prog w D n sc P' (Γ' a) (⟨a, r', ys⟩ :: M) sts r y)
    (ht : ∀ env, backTo p' (starEach [e₁, e₂] env) = [e₁, e₂].map fun e => (false, eval e env) := by intro _; rfl) :
    Ret prog w D n sc P Γ M (.Assign [.Tuple [.Name x₁ p₁, .Name x₂ p₂] k p] (.Tuple [e₁, e₂] k' p') pos :: sts) r y := by
  intro A g env s E hL hE t
  refine wpAny_execs_cons (exec_tuple (D := D) (g := g) (xs := [(x₁, p₁), (x₂, p₂)]) hL hE hc ht (fun x hx => ?_) (by simp [hne]) (by show 2 ≤ 100; omega) ?_)
  · rcases List.mem_cons.mp hx with rfl | hx
    · exact hx₁
    · rw [List.mem_singleton.mp hx]; exact hx₂
  refine Calls.spliced_cons (wpAny_mono (h₁ A env s E hL hE t.world t.free (t.seen hs)) (fun v s₁ q => ?_) fun _ _ e => e)
  obtain ⟨a, rfl, k₁, hn, pa, items, hl, hp⟩ := q
  have t₁ := t.make k₁ sr' hn hl hp
  refine Calls.spliced_cons (wpAny_mono (h₂ _ A env s₁ E hL hE t₁.world t₁.free (t₁.seen hs.more)) (fun v s₂ q => Calls.spliced_nil ?_) fun _ _ e => e)
  obtain ⟨k₂, hv⟩ := q
  have t₂ := t₁.keeps k₂
  refine ⟨_, Γ.filter fun c => decide (c.name ≠ x₁ ∧ c.name ≠ x₂), _, [⟨x₁, rAddr, a⟩, ⟨x₂, r₂, z⟩], rfl, t₂.sub fun c hc => (List.mem_filter.mp hc).1, ⟨.inl rfl, .inr ⟨sr₂, hv⟩, trivial⟩, rfl, fun c hc d hd e => ?_, fun s' hs' c => ?_⟩
  · have := (List.mem_filter.mp hd).2
    rw [decide_eq_true_eq] at this
    rcases List.mem_cons.mp hc with rfl | hc
    · exact this.1 e
    · rw [List.mem_singleton.mp hc] at e; exact this.2 e
  · refine wpAny_mono (hk a _ (fun c p => p.1) A g env s' E hL hE (hs' (Γ' a) fun c hc => ?_)) (fun f s'' z => Ret.narrow (M := M) (sts := sts) (fun c p => p.1) ((Sh.of k₁).trans ((Sh.of k₂).trans c.1)) z) fun _ _ e => e
    rcases hΓ a c hc with q | q | q
    · exact .inl (q ▸ .head _)
    · exact .inl (q ▸ .tail _ (.head _))
    · exact .inr (List.mem_filter.mpr ⟨q.1, by simpa using q.2⟩)
end
end Mine
end

section
open PySem PySem.W
set_option Elab.async false
set_option linter.unusedVariables false
set_option linter.unusedSectionVars false
set_option maxRecDepth 10000
open PyProof.Rows
namespace Mine
variable [Lim]
noncomputable def fdv (a b : Int) : UInt64 := Float64.ofFrac (decide (a < 0) != decide (b < 0)) a.natAbs b.natAbs
/-- a tuple of two ints -/
noncomputable def rPair : Rel (Int × Int) := ⟨fun P h v x => ∃ a i j, v = .ref a ∧ h.IsTuple a #[i, j] ∧ (∃ t, i = .int x.1 t) ∧ ∃ t, j = .int x.2 t, fun {P P' h h' v x} p k e => by
  obtain ⟨a, i, j, rfl, ⟨o, ho, hc, hd⟩, hi, hj⟩ := e
  obtain ⟨o', ho', d, c⟩ := k.obj ho
  exact ⟨a, i, j, rfl, ⟨o', ho', c ▸ hc, d ▸ hd⟩, hi, hj⟩⟩
section
variable {prog : Program} {w : World} {D : Wd} {sc : Scope} {env : Env} {P : Addr → Prop} {Γ Γ' Θ : List Bnd} {M : List Mu} {n : Nat} {A : Around} {α β γ : Type} {r : Rel α} {r' : Rel β} {r₂ : Rel γ} {s : Shared} {E : Value → Shared → Prop}

theorem op_div (a b : Int) (hb : b ≠ 0) (hi : Float64.isInf (fdv a b) = false) : Op2 prog w D n P (binaryOp .Div) rInt a rInt b rFlt (fdv a b) := by
  rintro A s E v u hL hW hF ⟨t, rfl⟩ ⟨t', rfl⟩
  exact AutoIntOps.truediv_2 (by simpa using hb) (by unfold fdv at hi; simp [hi]) ⟨keeps_tok s _, _, rfl⟩
theorem op_divmod (a b : Int) (hb : b ≠ 0) (hs : b.natAbs < 1073741824) : Op2 prog w D n P (fun v u => call (.builtin "divmod") [v, u]) rInt a rInt b rPair (a.fdiv b, a.fmod b) := by
  rintro A s E v u hL hW hF ⟨t, rfl⟩ ⟨t', rfl⟩
  refine divmod_int hb ⟨⟨_, _, rfl, .of fun b o e => Heap.get?_push_of_some _ e⟩, _, _, _, rfl, ⟨_, Heap.get?_push_size _ rfl, rfl, _, rfl⟩, ⟨_, rfl⟩, _, rfl⟩ (.inl (PyProof.noPylong_small hs))
theorem Ev.callB2 {id : String} {nm : Str} {e e' : Expr} {p pos : Pos} {x : α} {y : β} {z : γ} (hm : (nm, Value.builtin id) ∈ builtinList) (he : Ev prog w D n sc Γ P e r x) (he' : Ev prog w D n sc Γ P e' r' y) (ho : Op2 prog w D n P (fun v u => PySem.call (.builtin id) [v, u]) r x r' y r₂ z)
    (hx : sc.names.lookup nm = some .globalImplicit := by decide) (hd : (nm == ("__debug__" : Str)) = false := by decide) (ht : ∀ env, backTo pos (starEach [e, e'] env) = [(false, eval e env), (false, eval e' env)] := by intro _; rfl) :
    Ev prog w D n sc Γ P (.Call (.Name nm p) [e, e'] [] pos) r₂ z := by
  intro A env s E hL hE hW hF hV
  refine PyProof.Rows.Call_Name (ht env) (wpAny_mono (Ev.bi (pos := p) hm hx hd A env s E hL hE hW hF hV) (fun v s₁ h₁ => ?_) fun _ _ e => e)
  obtain ⟨k, rfl⟩ := h₁
  have k₁ := keeps_keep k
  refine Calls.callWith_builtin rfl (Calls.evalArgs_plain (Calls.spliced_cons (wpAny_mono (he A env s₁ E hL hE (hW.keep k₁) (hF.keep k₁) (hV.keep k₁)) (fun u s₂ h₂ => ?_) fun _ _ e => e)))
  have k₂ := k₁.trans (keeps_keep h₂.1)
  refine Calls.spliced_cons (wpAny_mono (he' A env s₂ E hL hE (hW.keep k₂) (hF.keep k₂) (hV.keep k₂)) (fun u' s₃ h₃ => Calls.spliced_nil ?_) fun _ _ e => e)
  have k₃ := k₂.trans (keeps_keep h₃.1)
  exact wpAny_mono (ho A s₃ E u u' hL (hW.keep k₃) (hF.keep k₃) (r.keep (keeps_keep h₃.1) h₂.2) h₃.2) (fun q s₄ h₄ => ⟨keeps_trans k (keeps_trans h₂.1 (keeps_trans h₃.1 h₄.1)), h₄.2⟩) fun _ _ e => e
/-- two names, by a tuple of two ints -/
theorem Ex.unpack2 {x₁ x₂ : Str} {p₁ p₂ : Pos} {e : Expr} {i j : Int} {k : Nat} {p pos : Pos} (hs : Seen Γ M Θ) (he : Ev prog w D n sc Θ P e rPair (i, j)) (hx₁ : Stor sc x₁) (hx₂ : Stor sc x₂) (hne : x₁ ≠ x₂)
    (hΓ : ∀ c ∈ Γ', c = ⟨x₁, rInt, i⟩ ∨ c = ⟨x₂, rInt, j⟩ ∨ (c ∈ Γ ∧ c.name ≠ x₁ ∧ c.name ≠ x₂))
    (h1 : ∀ env, swapsWithSole [.Tuple [.Name x₁ p₁, .Name x₂ p₂] k p] e pos.line env = pure false := by intro _; rfl) (h2 : ∀ env, swappedStores [.Tuple [.Name x₁ p₁, .Name x₂ p₂] k p] e env = pure none := by intro _; rfl) :
    Ex prog w D n sc P Γ M (.Assign [.Tuple [.Name x₁ p₁, .Name x₂ p₂] k p] e pos) Γ' M := by
  intro A g env s E hL hE t
  refine PyProof.Rows.Assign_Tuple (wpAny_mono (he A env s E hL hE t.world t.free (t.seen hs)) (fun v s₁ q => ?_) fun _ _ e => e) (h1 env) (h2 env)
  obtain ⟨k₁, a, vi, vj, rfl, hT, hi, hj⟩ := q
  refine wpAny_assign_Tuple hL.1 hT rfl rfl fun h' he => ?_
  have k₃ : Keeps s { s₁ with heap := h' } := keeps_trans k₁ ⟨h', s₁.toks, rfl, .of fun b o e => he b o (Nat.ne_of_lt (Heap.lt_size e)) e⟩
  have t₃ := t.keeps k₃
  have t₄ := t₃.sub (Δ := Γ.filter fun c => decide (c.name ≠ x₁ ∧ c.name ≠ x₂)) fun b hb => (List.mem_filter.mp hb).1
  refine wpAny_mono (stores_ok (bs := [⟨x₁, rInt, i⟩, ⟨x₂, rInt, j⟩]) (vs := [vi, vj]) hE t₄ ⟨.inr ⟨solid_int, hi⟩, .inr ⟨solid_int, hj⟩, trivial⟩ (fun b hb => ?_) (by simp [hne]) (fun c hc d hd e => ?_) ⟨rfl, fun i f b h1 h2 v s' Q' E' hq => ?_⟩) (fun _ s' q => ⟨rfl, q.1 Γ' fun c hc => ?_, (Chx.keeps k₃).trans (chx_own q.2)⟩) fun _ _ e => e
  · rcases List.mem_cons.mp hb with rfl | hb
    · exact hx₁
    · rw [List.mem_singleton.mp hb]; exact hx₂
  · have := (List.mem_filter.mp hd).2
    rw [decide_eq_true_eq] at this
    rcases List.mem_cons.mp hc with rfl | hc
    · exact this.1 e
    · rw [List.mem_singleton.mp hc] at e; exact this.2 e
  · match i, h1, h2 with
    | 0, h1, h2 => cases h1; cases h2; exact wpAny_assign_Name hq
    | 1, h1, h2 => cases h1; cases h2; exact wpAny_assign_Name hq
    | i + 2, h1, h2 => cases h2
  · rcases hΓ c hc with q | q | q
    · exact .inl (q ▸ .head _)
    · exact .inl (q ▸ .tail _ (.head _))
    · exact .inr (List.mem_filter.mpr ⟨q.1, by simpa using q.2⟩)

theorem high_call {nm : Str} {a : Addr} {xs : List Int} (hx : D.fn nm = some (a, fHigh)) (h0 : 0 < xs.length) (hsz : xs.length < 64) :
    CallsTo prog w D (n + 1) P (.ref a) [⟨rRoot rInt, xs⟩] [] [] rInt (medHigh xs) := by
  refine ret_call hx fits_high (one_arg rfl (by decide)) fun P => ?_
  refine Ret.step (Γ' := [⟨"data", rList rInt, isort xs⟩]) (M' := []) (Ex.assign Seen.self (Ev.sorted Ev.var hsz) (solid_list solid_int) (by decide) fun c hc => .inl (List.mem_singleton.mp hc)) ?_
  refine Ret.step (Γ' := [⟨"n", rInt, (xs.length : Int)⟩, ⟨"data", rList rInt, isort xs⟩]) (M' := []) (Ex.assign Seen.self (Ev.cast (Ev.len (Ev.root Ev.var) (by rw [isort_length]; omega)) (by rw [isort_length])) solid_int (by decide) fun c hc => ?_) ?_
  · rcases List.mem_cons.mp hc with q | hc
    · exact .inl q
    · rw [List.mem_singleton.mp hc]; exact .inr ⟨.head _, by dsimp only; decide⟩
  refine Ret.step (Ex.ifNot Seen.self (Et.cast (Et.cmp Ev.var Ev.int (op_eq _ _)) (by rw [beq_eq_false_iff_ne]; omega))) ?_
  refine Ret.ret Seen.self (Ev.idx (Ev.root Ev.var) (Ev.cast (y := ((xs.length / 2 : Nat) : Int)) (Ev.bin Ev.var Ev.int (op_floordiv (xs.length : Int) 2 (by decide) (PyProof.noPylong_small (by omega)))) ?_) (by omega) (by omega) ?_)
  · rw [Int.fdiv_eq_ediv_of_nonneg _ (by decide)]; omega
  · rw [Int.toNat_natCast, getD_some (by rw [isort_length]; omega), medHigh]
theorem med_odd {nm : Str} {a : Addr} {xs : List Int} (hx : D.fn nm = some (a, fMed)) (c : xs.length % 2 = 1) (hsz : xs.length < 64) :
    CallsTo prog w D (n + 1) P (.ref a) [⟨rRoot rInt, xs⟩] [] [] rInt (medHigh xs) := by
  refine ret_call hx fits_med (one_arg rfl (by decide)) fun P => ?_
  refine Ret.step (Γ' := [⟨"data", rList rInt, isort xs⟩]) (M' := []) (Ex.assign Seen.self (Ev.sorted Ev.var hsz) (solid_list solid_int) (by decide) fun c hc => .inl (List.mem_singleton.mp hc)) ?_
  refine Ret.step (Γ' := [⟨"n", rInt, (xs.length : Int)⟩, ⟨"data", rList rInt, isort xs⟩]) (M' := []) (Ex.assign Seen.self (Ev.cast (Ev.len (Ev.root Ev.var) (by rw [isort_length]; omega)) (by rw [isort_length])) solid_int (by decide) fun c hc => ?_) ?_
  · rcases List.mem_cons.mp hc with q | hc
    · exact .inl q
    · rw [List.mem_singleton.mp hc]; exact .inr ⟨.head _, by dsimp only; decide⟩
  refine Ret.step (Ex.ifNot Seen.self (Et.cast (Et.cmp Ev.var Ev.int (op_eq _ _)) (by rw [beq_eq_false_iff_ne]; omega))) ?_
  refine Ret.ifRet Seen.self (Et.cast (Et.cmp (Ev.bin Ev.var Ev.int (op_mod _ 2 (by decide))) Ev.int (op_eq _ _)) (by rw [beq_iff_eq, Int.fmod_eq_emod_of_nonneg _ (by decide)]; omega)) ?_
  refine Ret.ret Seen.self (Ev.idx (Ev.root Ev.var) (Ev.cast (y := ((xs.length / 2 : Nat) : Int)) (Ev.bin Ev.var Ev.int (op_floordiv (xs.length : Int) 2 (by decide) (PyProof.noPylong_small (by omega)))) ?_) (by omega) (by omega) ?_)
  · rw [Int.fdiv_eq_ediv_of_nonneg _ (by decide)]; omega
  · rw [Int.toNat_natCast, getD_some (by rw [isort_length]; omega), medHigh]
theorem med_even {nm : Str} {a : Addr} {xs : List Int} (hx : D.fn nm = some (a, fMed)) (h0 : 0 < xs.length) (c : xs.length % 2 = 0) (hi : Float64.isInf (fdv (medLow xs + medHigh xs) 2) = false) (hsz : xs.length < 64) :
    CallsTo prog w D (n + 1) P (.ref a) [⟨rRoot rInt, xs⟩] [] [] rFlt (fdv (medLow xs + medHigh xs) 2) := by
  refine ret_call hx fits_med (one_arg rfl (by decide)) fun P => ?_
  refine Ret.step (Γ' := [⟨"data", rList rInt, isort xs⟩]) (M' := []) (Ex.assign Seen.self (Ev.sorted Ev.var hsz) (solid_list solid_int) (by decide) fun c hc => .inl (List.mem_singleton.mp hc)) ?_
  refine Ret.step (Γ' := [⟨"n", rInt, (xs.length : Int)⟩, ⟨"data", rList rInt, isort xs⟩]) (M' := []) (Ex.assign Seen.self (Ev.cast (Ev.len (Ev.root Ev.var) (by rw [isort_length]; omega)) (by rw [isort_length])) solid_int (by decide) fun c hc => ?_) ?_
  · rcases List.mem_cons.mp hc with q | hc
    · exact .inl q
    · rw [List.mem_singleton.mp hc]; exact .inr ⟨.head _, by dsimp only; decide⟩
  refine Ret.step (Ex.ifNot Seen.self (Et.cast (Et.cmp Ev.var Ev.int (op_eq _ _)) (by rw [beq_eq_false_iff_ne]; omega))) ?_
  refine Ret.elseRet Seen.self (Et.cast (Et.cmp (Ev.bin Ev.var Ev.int (op_mod _ 2 (by decide))) Ev.int (op_eq _ _)) (by rw [beq_eq_false_iff_ne, Int.fmod_eq_emod_of_nonneg _ (by decide)]; omega)) ?_
  refine Ret.step (Γ' := [⟨"i", rInt, ((xs.length / 2 : Nat) : Int)⟩, ⟨"data", rList rInt, isort xs⟩]) (M' := []) (Ex.assign Seen.self (Ev.cast (y := ((xs.length / 2 : Nat) : Int)) (Ev.bin Ev.var Ev.int (op_floordiv (xs.length : Int) 2 (by decide) (PyProof.noPylong_small (by omega)))) (by rw [Int.fdiv_eq_ediv_of_nonneg _ (by decide)]; omega)) solid_int (by decide) fun c hc => ?_) ?_
  · rcases List.mem_cons.mp hc with q | hc
    · exact .inl q
    · rw [List.mem_singleton.mp hc]; exact .inr ⟨.tail _ (.head _), by dsimp only; decide⟩
  refine Ret.ret Seen.self (Ev.bin (Ev.bin (Ev.idx (y := medLow xs) (Ev.root Ev.var) (Ev.cast (y := ((xs.length / 2 - 1 : Nat) : Int)) (Ev.bin Ev.var Ev.int (op_sub _ _)) (by omega)) (by omega) (by omega) ?_) (Ev.idx (y := medHigh xs) (Ev.root Ev.var) Ev.var (by omega) (by omega) ?_) (op_add _ _)) Ev.int (op_div _ 2 (by decide) hi))
  · rw [Int.toNat_natCast, getD_some (by rw [isort_length]; omega), medLow, if_neg (by omega)]
  · rw [Int.toNat_natCast, getD_some (by rw [isort_length]; omega), medHigh]
end
end Mine
end

section
open PySem PySem.W
set_option Elab.async false
set_option linter.unusedVariables false
set_option linter.unusedSectionVars false
set_option maxRecDepth 10000
open PyProof.Rows
namespace Mine
variable [Lim]

/-- quantiles' binder: what is not given is 4 and 'exclusive' -/
noncomputable def bindQ (a : Args) (b : List (Str × Value)) : Prop :=
  (∃ v, a = ⟨[v], []⟩ ∧ b = [(("data" : Str), v), (("n" : Str), .int 4 262), (("method" : Str), .str "exclusive" 263)]) ∨
  (∃ v u, a = ⟨[v], [(("n" : Str), u)]⟩ ∧ b = [(("data" : Str), v), (("n" : Str), u), (("method" : Str), .str "exclusive" 263)]) ∨
  (∃ v u m, a = ⟨[v], [(("n" : Str), u), (("method" : Str), m)]⟩ ∧ b = [(("data" : Str), v), (("n" : Str), u), (("method" : Str), m)])
noncomputable def fQ : Fn := fnOfStm 8 bindQ
theorem fits_q : FnFits fQ := ⟨rfl, rfl, rfl, by decide, by decide⟩

theorem mulOk {a b : Int} (h1 : -(2 ^ 64) < b) (h2 : b < 2 ^ 64) : IntMulOk a b := .of_right (intBits_le_64 h1 h2)
theorem mulOk' {a b : Int} (h1 : -(2 ^ 64) < a) (h2 : a < 2 ^ 64) : IntMulOk a b := .of_left (intBits_le_64 h1 h2)
theorem grow {α : Type} {x : Str} {r : Rel α} {y : α} {Γ : List Bnd} (h : x ∉ Γ.map (·.name) := by (first | (dsimp only [List.append, List.map, HAppend.hAppend, Append.append]; decide) | decide)) : ∀ c ∈ (⟨x, r, y⟩ :: Γ : List Bnd), c = ⟨x, r, y⟩ ∨ (c ∈ Γ ∧ c.name ≠ x) := by
  intro c hc
  rcases List.mem_cons.mp hc with q | q
  · exact .inl q
  · exact .inr ⟨q, fun e => h (e ▸ List.mem_map_of_mem q)⟩
theorem grow2 {α β : Type} {x x' : Str} {r : Rel α} {y : α} {r' : Rel β} {y' : β} {Γ : List Bnd} (h : x ∉ Γ.map (·.name) := by (first | (dsimp only [List.append, List.map, HAppend.hAppend, Append.append]; decide) | decide)) (h' : x' ∉ Γ.map (·.name) := by (first | (dsimp only [List.append, List.map, HAppend.hAppend, Append.append]; decide) | decide)) :
    ∀ c ∈ (⟨x, r, y⟩ :: ⟨x', r', y'⟩ :: Γ : List Bnd), c = ⟨x, r, y⟩ ∨ c = ⟨x', r', y'⟩ ∨ (c ∈ Γ ∧ c.name ≠ x ∧ c.name ≠ x') := by
  intro c hc
  rcases List.mem_cons.mp hc with q | q
  · exact .inl q
  · rcases List.mem_cons.mp q with q | q
    · exact .inr (.inl q)
    · exact .inr (.inr ⟨q, fun e => h (e ▸ List.mem_map_of_mem q), fun e => h' (e ▸ List.mem_map_of_mem q)⟩)
theorem fresh_name {x : Str} {Γ : List Bnd} (h : x ∉ Γ.map (·.name) := by (first | (dsimp only [List.append, List.map, HAppend.hAppend, Append.append]; decide) | decide)) : ∀ b ∈ Γ, b.name ≠ x := fun b hb e => h (e ▸ List.mem_map_of_mem hb)
theorem regrow {α : Type} {x : Str} {r : Rel α} {y : α} {b₀ : Bnd} {Γ : List Bnd} (h : x ∉ Γ.map (·.name) := by (first | (dsimp only [List.append, List.map, HAppend.hAppend, Append.append]; decide) | decide)) : ∀ c ∈ (⟨x, r, y⟩ :: Γ : List Bnd), c = ⟨x, r, y⟩ ∨ (c ∈ b₀ :: Γ ∧ c.name ≠ x) := by
  intro c hc
  rcases List.mem_cons.mp hc with q | q
  · exact .inl q
  · exact .inr ⟨.tail _ q, fun e => h (e ▸ List.mem_map_of_mem q)⟩
theorem take_snoc {α β : Type} {f : α → β} {xs : List α} {i : Nat} {x : α} (h : xs[i]? = some x) : (xs.take (i + 1)).map f = (xs.take i).map f ++ [f x] := by
  rw [List.take_add_one, h, List.map_append]; rfl
theorem rng_mem {a : Int} {k i : Nat} {x : Int} (h : (rng a k)[i]? = some x) : a ≤ x ∧ x < a + k := by
  have := rng_get _ _ _ _ h
  have hl : i < (rng a k).length := (List.getElem?_eq_some_iff.mp h).1
  unfold rng at hl
  rw [List.length_map, List.length_range] at hl
  omega

noncomputable def inclAt (d : List Int) (n i : Int) : UInt64 :=
  fdv (d.getD ((i * ((d.length : Int) - 1)).fdiv n).toNat 0 * (n - (i * ((d.length : Int) - 1)).fmod n) + d.getD (((i * ((d.length : Int) - 1)).fdiv n).toNat + 1) 0 * (i * ((d.length : Int) - 1)).fmod n) n
noncomputable def exclJ (ld : Int) (n i : Int) : Int := let j := (i * (ld + 1)).fdiv n; if j < 1 then 1 else if ld - 1 < j then ld - 1 else j
noncomputable def exclAt (d : List Int) (n i : Int) : UInt64 :=
  let j := exclJ d.length n i
  let delta := i * ((d.length : Int) + 1) - j * n
  fdv (d.getD (j - 1).toNat 0 * (n - delta) + d.getD j.toNat 0 * delta) n

section
variable {prog : Program} {w : World} {D : Wd} {P : Addr → Prop} {n : Nat}

/-- what quantiles does ahead of its branches -/
theorem q_ahead {xs : List Int} {k : Int} {me : Str} {α : Type} {r : Rel α} {y : α} (hk : 1 ≤ k) (h1 : 1 ≤ xs.length) (hsz : xs.length < 64)
    (h : Ret prog w D n fQ.scope P [⟨"ld", rInt, (xs.length : Int)⟩, ⟨"data", rList rInt, isort xs⟩, ⟨"n", rInt, k⟩, ⟨"method", rStr, me⟩] [] (fQ.body.drop 3) r y) :
    Ret prog w D n fQ.scope P [⟨"data", rRoot rInt, xs⟩, ⟨"n", rInt, k⟩, ⟨"method", rStr, me⟩] [] fQ.body r y := by
  refine Ret.step (Ex.ifNot Seen.self (Et.cast (Et.cmp Ev.var Ev.int (op_lt _ _)) (by simp; omega))) ?_
  refine Ret.step (Γ' := [⟨"data", rList rInt, isort xs⟩, ⟨"n", rInt, k⟩, ⟨"method", rStr, me⟩]) (M' := []) (Ex.assign Seen.self (Ev.sorted Ev.var hsz) (solid_list solid_int) (by decide) fun c hc => ?_) ?_
  · rcases List.mem_cons.mp hc with q | hc
    · exact .inl q
    · refine .inr ⟨.tail _ hc, ?_⟩
      simp only [List.mem_cons, List.not_mem_nil, or_false] at hc
      rcases hc with rfl | rfl <;> (dsimp only; decide)
  exact Ret.step (Ex.assign Seen.self (Ev.cast (Ev.len (Ev.root Ev.var) (by rw [isort_length]; omega)) (by rw [isort_length])) solid_int (by decide) grow) h

theorem q_single {x k : Int} {me : Str} (hk : 1 ≤ k) (hk' : k < 1000) : Ret prog w D n fQ.scope P [⟨"data", rRoot rInt, [x]⟩, ⟨"n", rInt, k⟩, ⟨"method", rStr, me⟩] [] fQ.body (rList rInt) (List.replicate (k - 1).toNat [x]).flatten := by
  refine q_ahead hk (by simp) (by simp) ?_
  refine Ret.ifRet Seen.self (Et.cmp Ev.var Ev.int (op_lt _ _)) (Ret.ifRet Seen.self (Et.cmp Ev.var Ev.int (op_eq _ _)) ?_)
  exact Ret.ret Seen.self (Ev.bin (Ev.root Ev.var) (Ev.bin Ev.var Ev.int (op_sub _ _)) (op_mulL rInt [x] (k - 1) (by omega) (by omega) (by simp; omega)))

theorem q_incl {xs : List Int} {k : Int} (hk : 1 ≤ k) (hk' : k < 1000) (h1 : 2 ≤ xs.length) (hsz : xs.length < 64) (hb : ∀ x ∈ xs, -1000 ≤ x ∧ x ≤ 1000) (hj : ∀ i ∈ rng 1 (k - 1).toNat, ((i * ((xs.length : Int) - 1)).fdiv k).toNat + 1 < xs.length ∧ 0 ≤ (i * ((xs.length : Int) - 1)).fdiv k)
    (hi : ∀ i ∈ rng 1 (k - 1).toNat, Float64.isInf (inclAt (isort xs) k i) = false) :
    Ret prog w D n fQ.scope P [⟨"data", rRoot rInt, xs⟩, ⟨"n", rInt, k⟩, ⟨"method", rStr, "inclusive"⟩] [] fQ.body (rList rFlt) ((rng 1 (k - 1).toNat).map (inclAt (isort xs) k)) := by
  refine q_ahead hk (by omega) hsz ?_
  refine Ret.step (Ex.ifNot Seen.self (Et.cast (Et.cmp Ev.var Ev.int (op_lt _ _)) (by simp; omega))) ?_
  refine Ret.ifRet Seen.self (Et.cast (Et.cmp Ev.var Ev.str (op_eqS _ _)) (by decide)) ?_
  refine Ret.step (Ex.assign Seen.self (Ev.bin Ev.var Ev.int (op_sub _ _)) solid_int (by decide) grow) ?_
  refine Ret.new (r' := rFlt) Seen.self EvNew.nil solid_flt (by decide) (fun a => grow) fun a P' hP' => ?_
  refine Ret.step (Ex.for (xs := rng 1 (k - 1).toNat) (Γi := fun _ => [⟨"result", rAddr, a⟩, ⟨"m", rInt, (xs.length : Int) - 1⟩, ⟨"ld", rInt, (xs.length : Int)⟩, ⟨"data", rList rInt, isort xs⟩, ⟨"n", rInt, k⟩, ⟨"method", rStr, "inclusive"⟩])
    (Mi := fun i => [⟨a, rFlt, ((rng 1 (k - 1).toNat).take i).map (inclAt (isort xs) k)⟩]) (Δ := fun x => [⟨"i", rInt, x⟩]) Seen.self (Src.range (Ev.range2 Ev.int Ev.var (by omega) (by omega) (by omega) (by omega))) (fun b hb => hb) (fun i => Tgt.name (by decide) fresh_name) (fun i => rfl) (fun i x hx => ?_)) ?_
  · obtain ⟨hx1, hx2⟩ := rng_mem hx
    have hmem : x ∈ rng 1 (k - 1).toNat := List.mem_of_getElem? hx
    obtain ⟨hj1, hj2⟩ := hj x hmem
    have hfm := Int.fmod_nonneg_of_pos (x * ((xs.length : Int) - 1)) (show 0 < k by omega)
    have hfl := Int.fmod_lt_of_pos (x * ((xs.length : Int) - 1)) (show 0 < k by omega)
    simp only [List.singleton_append]
    refine ExS.cons rfl (Ex.unpack2 Seen.self (Ev.callB2 (id := "divmod") (by decide) (Ev.bin Ev.var Ev.var (op_mul _ _ (mulOk (by omega) (by omega)))) Ev.var (op_divmod _ _ (by omega) (by omega))) (by decide) (by decide) (by decide) grow2) ?_
    refine ExS.cons rfl (Ex.assign (r := rFlt) (y := inclAt (isort xs) k x) Seen.self (Ev.bin (Ev.bin (Ev.bin (Ev.idx (y := (isort xs).getD ((x * ((xs.length : Int) - 1)).fdiv k).toNat 0) (Ev.root Ev.var) Ev.var hj2 (by omega) (getD_some (by rw [isort_length]; omega))) (Ev.bin Ev.var Ev.var (op_sub _ _)) (op_mul _ _ (mulOk (by omega) (by omega)))) (Ev.bin (Ev.idx (y := (isort xs).getD (((x * ((xs.length : Int) - 1)).fdiv k).toNat + 1) 0) (Ev.root Ev.var) (Ev.bin Ev.var Ev.int (op_add _ _)) (by omega) (by omega) ?_) Ev.var (op_mul _ _ (mulOk (by omega) (by omega)))) (op_add _ _)) Ev.var ?_) solid_flt (by decide) grow) ?_
    · rw [show ((x * ((xs.length : Int) - 1)).fdiv k + 1).toNat = ((x * ((xs.length : Int) - 1)).fdiv k).toNat + 1 by omega]
      exact getD_some (by rw [isort_length]; omega)
    · have e : inclAt (isort xs) k x = fdv ((isort xs).getD ((x * ((xs.length : Int) - 1)).fdiv k).toNat 0 * (k - (x * ((xs.length : Int) - 1)).fmod k) + (isort xs).getD (((x * ((xs.length : Int) - 1)).fdiv k).toNat + 1) 0 * (x * ((xs.length : Int) - 1)).fmod k) k := by
        unfold inclAt; rw [isort_length]
      rw [e]
      exact op_div _ _ (by omega) (e ▸ hi x hmem)
    · refine ExS.cons (Γ' := [⟨"result", rAddr, a⟩, ⟨"m", rInt, (xs.length : Int) - 1⟩, ⟨"ld", rInt, (xs.length : Int)⟩, ⟨"data", rList rInt, isort xs⟩, ⟨"n", rInt, k⟩, ⟨"method", rStr, "inclusive"⟩]) (M' := [⟨a, rFlt, ((rng 1 (k - 1).toNat).take i).map (inclAt (isort xs) k) ++ [inclAt (isort xs) k x]⟩]) rfl ?_ ?_
      · refine Ex.append (M₁ := []) (M₂ := []) (m := ⟨a, rFlt, ((rng 1 (k - 1).toNat).take i).map (inclAt (isort xs) k)⟩) (y := inclAt (isort xs) k x) rfl Seen.self Ev.var Ev.var ?_ fun b hb => ?_
        · rw [sizeLine_eq]; simp only [List.length_map, List.length_take, rng, List.length_range]; omega
        · exact .tail _ (.tail _ (.tail _ (.tail _ hb)))
      · rw [take_snoc hx]
        exact ExS.nil fun b hb => hb
  · rw [List.take_length]
    exact Ret.own (.head _) Ev.var

theorem q_excl {xs : List Int} {k : Int} (hk : 1 ≤ k) (hk' : k < 1000) (h1 : 2 ≤ xs.length) (hsz : xs.length < 64) (hi : ∀ i ∈ rng 1 (k - 1).toNat, Float64.isInf (exclAt (isort xs) k i) = false) :
    Ret prog w D n fQ.scope P [⟨"data", rRoot rInt, xs⟩, ⟨"n", rInt, k⟩, ⟨"method", rStr, "exclusive"⟩] [] fQ.body (rList rFlt) ((rng 1 (k - 1).toNat).map (exclAt (isort xs) k)) := by
  refine q_ahead hk (by omega) hsz ?_
  refine Ret.step (Ex.ifNot Seen.self (Et.cast (Et.cmp Ev.var Ev.int (op_lt _ _)) (by simp; omega))) ?_
  refine Ret.step (Ex.ifNot Seen.self (Et.cast (Et.cmp Ev.var Ev.str (op_eqS _ _)) (by decide))) ?_
  refine Ret.ifRet Seen.self (Et.cast (Et.cmp Ev.var Ev.str (op_eqS _ _)) (by decide)) ?_
  refine Ret.step (Ex.assign Seen.self (Ev.bin Ev.var Ev.int (op_add _ _)) solid_int (by decide) grow) ?_
  refine Ret.new (r' := rFlt) Seen.self EvNew.nil solid_flt (by decide) (fun a => grow) fun a P' hP' => ?_
  refine Ret.step (Ex.for (xs := rng 1 (k - 1).toNat) (Γi := fun _ => [⟨"result", rAddr, a⟩, ⟨"m", rInt, (xs.length : Int) + 1⟩, ⟨"ld", rInt, (xs.length : Int)⟩, ⟨"data", rList rInt, isort xs⟩, ⟨"n", rInt, k⟩, ⟨"method", rStr, "exclusive"⟩])
    (Mi := fun i => [⟨a, rFlt, ((rng 1 (k - 1).toNat).take i).map (exclAt (isort xs) k)⟩]) (Δ := fun x => [⟨"i", rInt, x⟩]) Seen.self (Src.range (Ev.range2 Ev.int Ev.var (by omega) (by omega) (by omega) (by omega))) (fun b hb => hb) (fun i => Tgt.name (by decide) fresh_name) (fun i => rfl) (fun i x hx => ?_)) ?_
  · obtain ⟨hx1, hx2⟩ := rng_mem hx
    have hmem : x ∈ rng 1 (k - 1).toNat := List.mem_of_getElem? hx
    simp only [List.singleton_append]
    refine ExS.cons rfl (Ex.assign Seen.self (Ev.bin (Ev.bin Ev.var Ev.var (op_mul _ _ (mulOk (by omega) (by omega)))) Ev.var (op_floordiv _ _ (by omega) (PyProof.noPylong_small (by omega)))) solid_int (by decide) grow) ?_
    have hJ : 1 ≤ exclJ xs.length k x ∧ exclJ xs.length k x ≤ (xs.length : Int) - 1 := by
      unfold exclJ
      dsimp only
      split
      · omega
      · split <;> omega
    refine ExS.cons rfl (Ex.assign (r := rInt) (y := exclJ xs.length k x) Seen.self (Ev.cast (Ev.ite (Et.cmp Ev.var Ev.int (op_lt _ _)) (fun _ => Ev.int) (fun _ => Ev.ite (Et.cmp Ev.var (Ev.bin Ev.var Ev.int (op_sub _ _)) (op_gt _ _)) (fun _ => Ev.bin Ev.var Ev.int (op_sub _ _)) (fun _ => Ev.var))) (by unfold exclJ; simp only [decide_eq_true_eq])) solid_int (by decide) regrow) ?_
    generalize hJe : exclJ xs.length k x = J at hJ
    refine ExS.cons rfl (Ex.assign Seen.self (Ev.bin (Ev.bin Ev.var Ev.var (op_mul _ _ (mulOk (by omega) (by omega)))) (Ev.bin Ev.var Ev.var (op_mul _ _ (mulOk (by omega) (by omega)))) (op_sub _ _)) solid_int (by decide) grow) ?_
    generalize hde : x * ((xs.length : Int) + 1) - J * k = de
    have hJk : 0 ≤ J * k := Int.mul_nonneg (by omega) (by omega)
    have hJk' : J * k ≤ 64 * 1000 := Int.mul_le_mul (by omega) (by omega) (by omega) (by decide)
    have hxm : 0 ≤ x * ((xs.length : Int) + 1) := Int.mul_nonneg (by omega) (by omega)
    have hxm' : x * ((xs.length : Int) + 1) ≤ 1000 * 65 := Int.mul_le_mul (by omega) (by omega) (by omega) (by decide)
    have e : exclAt (isort xs) k x = fdv ((isort xs).getD (J - 1).toNat 0 * (k - de) + (isort xs).getD J.toNat 0 * de) k := by
      unfold exclAt; rw [isort_length, hJe]; dsimp only; rw [hde]
    refine ExS.cons rfl (Ex.assign (r := rFlt) (y := exclAt (isort xs) k x) Seen.self (Ev.bin (Ev.bin (Ev.bin (Ev.idx (y := (isort xs).getD (J - 1).toNat 0) (Ev.root Ev.var) (Ev.bin Ev.var Ev.int (op_sub _ _)) (by omega) (by omega) (getD_some (by rw [isort_length]; omega))) (Ev.bin Ev.var Ev.var (op_sub _ _)) (op_mul _ _ (mulOk (by omega) (by omega)))) (Ev.bin (Ev.idx (y := (isort xs).getD J.toNat 0) (Ev.root Ev.var) Ev.var (by omega) (by omega) (getD_some (by rw [isort_length]; omega))) Ev.var (op_mul _ _ (mulOk (by omega) (by omega)))) (op_add _ _)) Ev.var (e ▸ op_div _ _ (by omega) (e ▸ hi x hmem))) solid_flt (by decide) grow) ?_
    refine ExS.cons (Γ' := [⟨"result", rAddr, a⟩, ⟨"m", rInt, (xs.length : Int) + 1⟩, ⟨"ld", rInt, (xs.length : Int)⟩, ⟨"data", rList rInt, isort xs⟩, ⟨"n", rInt, k⟩, ⟨"method", rStr, "exclusive"⟩]) (M' := [⟨a, rFlt, ((rng 1 (k - 1).toNat).take i).map (exclAt (isort xs) k) ++ [exclAt (isort xs) k x]⟩]) rfl ?_ ?_
    · refine Ex.append (M₁ := []) (M₂ := []) (m := ⟨a, rFlt, ((rng 1 (k - 1).toNat).take i).map (exclAt (isort xs) k)⟩) (y := exclAt (isort xs) k x) rfl Seen.self Ev.var Ev.var ?_ fun b hb => ?_
      · rw [sizeLine_eq]; simp only [List.length_map, List.length_take, rng, List.length_range]; omega
      · exact .tail _ (.tail _ (.tail _ (.tail _ hb)))
    · rw [take_snoc hx]
      exact ExS.nil fun b hb => hb
  · rw [List.take_length]
    exact Ret.own (.head _) Ev.var

theorem q_call0 {nm : Str} {a : Addr} {xs : List Int} {α : Type} {r : Rel α} {y : α} (hx : D.fn nm = some (a, fQ)) (h : ∀ P, Ret prog w D n fQ.scope P [⟨"data", rRoot rInt, xs⟩, ⟨"n", rInt, 4⟩, ⟨"method", rStr, "exclusive"⟩] [] fQ.body r y) :
    CallsTo prog w D (n + 1) P (.ref a) [⟨rRoot rInt, xs⟩] [] [] r y := by
  refine ret_call hx fits_q (fun vs kvs h P hvs hk => ?_) h
  cases hk
  cases hvs with
  | @cons v _ _ _ h1 hvs =>
    cases hvs
    refine ⟨_, .inl ⟨v, rfl, rfl⟩, fun p hp => ?_, by simp only [List.map_cons, List.map_nil]; decide, fun b hb => ?_⟩
    · simp only [List.mem_cons, List.not_mem_nil, or_false] at hp
      rcases hp with rfl | rfl | rfl <;> (dsimp only; decide)
    · simp only [List.mem_cons, List.not_mem_nil, or_false] at hb
      rcases hb with rfl | rfl | rfl
      · exact ⟨_, .head _, h1⟩
      · exact ⟨_, .tail _ (.head _), _, rfl⟩
      · exact ⟨_, .tail _ (.tail _ (.head _)), _, rfl⟩
theorem q_callN {nm : Str} {a : Addr} {xs : List Int} {k : Int} {α : Type} {r : Rel α} {y : α} (hx : D.fn nm = some (a, fQ)) (h : ∀ P, Ret prog w D n fQ.scope P [⟨"data", rRoot rInt, xs⟩, ⟨"n", rInt, k⟩, ⟨"method", rStr, "exclusive"⟩] [] fQ.body r y) :
    CallsTo prog w D (n + 1) P (.ref a) [⟨rRoot rInt, xs⟩] ["n"] [⟨rInt, k⟩] r y := by
  refine ret_call hx fits_q (fun vs kvs h P hvs hk => ?_) h
  cases hk with
  | @cons u _ _ _ h2 hk =>
  cases hk
  cases hvs with
  | @cons v _ _ _ h1 hvs =>
    cases hvs
    refine ⟨_, .inr (.inl ⟨v, u, rfl, rfl⟩), fun p hp => ?_, by simp only [List.map_cons, List.map_nil]; decide, fun b hb => ?_⟩
    · simp only [List.mem_cons, List.not_mem_nil, or_false] at hp
      rcases hp with rfl | rfl | rfl <;> (dsimp only; decide)
    · simp only [List.mem_cons, List.not_mem_nil, or_false] at hb
      rcases hb with rfl | rfl | rfl
      · exact ⟨_, .head _, h1⟩
      · exact ⟨_, .tail _ (.head _), h2⟩
      · exact ⟨_, .tail _ (.tail _ (.head _)), _, rfl⟩
theorem q_callM {nm : Str} {a : Addr} {xs : List Int} {k : Int} {me : Str} {α : Type} {r : Rel α} {y : α} (hx : D.fn nm = some (a, fQ)) (h : ∀ P, Ret prog w D n fQ.scope P [⟨"data", rRoot rInt, xs⟩, ⟨"n", rInt, k⟩, ⟨"method", rStr, me⟩] [] fQ.body r y) :
    CallsTo prog w D (n + 1) P (.ref a) [⟨rRoot rInt, xs⟩] ["n", "method"] [⟨rInt, k⟩, ⟨rStr, me⟩] r y := by
  refine ret_call hx fits_q (fun vs kvs h P hvs hk => ?_) h
  cases hk with
  | @cons u _ _ _ h2 hk => cases hk with
    | @cons m _ _ _ h3 hk =>
  cases hk
  cases hvs with
  | @cons v _ _ _ h1 hvs =>
    cases hvs
    refine ⟨_, .inr (.inr ⟨v, u, m, rfl, rfl⟩), fun p hp => ?_, by simp only [List.map_cons, List.map_nil]; decide, fun b hb => ?_⟩
    · simp only [List.mem_cons, List.not_mem_nil, or_false] at hp
      rcases hp with rfl | rfl | rfl <;> (dsimp only; decide)
    · simp only [List.mem_cons, List.not_mem_nil, or_false] at hb
      rcases hb with rfl | rfl | rfl
      · exact ⟨_, .head _, h1⟩
      · exact ⟨_, .tail _ (.head _), h2⟩
      · exact ⟨_, .tail _ (.tail _ (.head _)), h3⟩
end
end Mine
end

section
open PySem PySem.W
set_option Elab.async false
set_option linter.unusedVariables false
set_option linter.unusedSectionVars false
set_option maxRecDepth 10000
open PyProof.Rows
namespace Mine
variable [Lim]

noncomputable def maxL : List Int → Int
  | [] => 0
  | x :: xs => xs.foldl max x
theorem foldl_max (xs : List Int) : ∀ x : Int, x ≤ xs.foldl max x ∧ (∀ a ∈ xs, a ≤ xs.foldl max x) ∧ (xs.foldl max x = x ∨ xs.foldl max x ∈ xs) := by
  induction xs with
  | nil => intro x; simp
  | cons y ys ih =>
    intro x
    obtain ⟨h1, h2, h3⟩ := ih (max x y)
    rw [List.foldl_cons]
    refine ⟨by omega, fun a ha => ?_, ?_⟩
    · rcases List.mem_cons.mp ha with rfl | ha
      · omega
      · exact h2 a ha
    · rcases h3 with h3 | h3
      · rw [h3]
        by_cases c : x ≤ y
        · right; rw [Int.max_eq_right c]; exact .head _
        · left; rw [Int.max_eq_left (by omega)]
      · exact .inr (.tail _ h3)
theorem maxL_of {M : Int} {xs : List Int} (h1 : M ∈ xs) (h2 : ∀ a ∈ xs, a ≤ M) : M = maxL xs := by
  cases xs with
  | nil => cases h1
  | cons x xs =>
    obtain ⟨a, b, c⟩ := foldl_max xs x
    have e1 : M ≤ maxL (x :: xs) := by
      rcases List.mem_cons.mp h1 with rfl | h1
      · exact a
      · exact b M h1
    have e2 : maxL (x :: xs) ≤ M := by
      rcases c with c | c
      · show xs.foldl max x ≤ M
        rw [c]; exact h2 x (.head _)
      · exact h2 _ (.tail _ c)
    exact Int.le_antisymm e1 e2

section
variable {prog : Program} {w : World} {D : Wd} {P : Addr → Prop} {n : Nat} {sc : Scope} {Γ : List Bnd}

theorem op_max (xs : List Int) (h0 : 0 < xs.length) : Op1 prog w D n P (fun v => call (.builtin "max") [v]) (rRoot rInt) xs rInt (maxL xs) := by
  rintro A s E v hL hW hF ⟨a, items, rfl, hl, i₁⟩
  have hI := ints_paired i₁
  have hn : numsOf items.toList = xs := hI.numsOf
  have hall : AllInts items := by have := hI.allInts; simpa using this
  obtain ⟨ys, rfl⟩ := hall.items
  rw [nums_intItems] at hn
  have hsz : 0 < ys.size := by
    have := i₁.length
    simp [intItems] at this
    omega
  refine max_intList hL.1 hl hsz fun v h' tk hv hk => ?_
  obtain ⟨t, rfl⟩ := intItems_at hv
  obtain ⟨h1, h2⟩ := argBest_gt (numAt ys) (ys.size - 1)
  refine ⟨⟨h', tk, rfl, .of hk⟩, t, ?_⟩
  congr 1
  refine maxL_of ?_ fun a ha => ?_
  · rw [← hn, numAt_eq]; exact getD_mem (by rw [List.length_map, Array.length_toList]; omega)
  · rw [← hn] at ha
    obtain ⟨j, hj, rfl⟩ := mem_getD ha
    rw [List.length_map, Array.length_toList] at hj
    rw [← numAt_eq]; exact h2 j (by omega)
theorem op_sum (xs : List Int) : Op1 prog w D n P (fun v => call (.builtin "sum") [v]) (rRoot rInt) xs rInt xs.sum := by
  rintro A s E v hL hW hF ⟨a, items, rfl, hl, i₁⟩
  have hI := ints_paired i₁
  have hn : numsOf items.toList = xs := hI.numsOf
  have hall : AllInts items := by have := hI.allInts; simpa using this
  obtain ⟨ys, rfl⟩ := hall.items
  rw [nums_intItems] at hn
  refine sum_intListG hL.1 hl fun h' tk t' hk => ⟨⟨h', tk, rfl, .of hk⟩, t', ?_⟩
  rw [preSum_eq, List.take_of_length_le (by simp), hn]
theorem Ev.max {xs : List Int} {e : Expr} {p pos : Pos} (he : Ev prog w D n sc Γ P e (rRoot rInt) xs) (h0 : 0 < xs.length)
    (hx : sc.names.lookup ("max" : Str) = some .globalImplicit := by decide) (ht : ∀ env, backTo pos (starEach [e] env) = [(false, eval e env)] := by intro _; rfl) :
    Ev prog w D n sc Γ P (.Call (.Name "max" p) [e] [] pos) rInt (maxL xs) := Ev.callB (by decide) he (op_max xs h0) hx (by decide) ht
theorem Ev.sum {xs : List Int} {e : Expr} {p pos : Pos} (he : Ev prog w D n sc Γ P e (rRoot rInt) xs)
    (hx : sc.names.lookup ("sum" : Str) = some .globalImplicit := by decide) (ht : ∀ env, backTo pos (starEach [e] env) = [(false, eval e env)] := by intro _; rfl) :
    Ev prog w D n sc Γ P (.Call (.Name "sum" p) [e] [] pos) rInt xs.sum := Ev.callB (by decide) he (op_sum xs) hx (by decide) ht
end
end Mine
end

section
open PySem PySem.W
set_option Elab.async false
set_option linter.unusedVariables false
set_option linter.unusedSectionVars false
set_option maxRecDepth 10000
open PyProof.Rows
namespace Mine
variable [Lim]

theorem caught {Γ Γc : List Bnd} {sc' : Scope} (h1 : Γc ⊆ Γ := by (repeat (first | exact List.nil_subset _ | refine List.cons_subset.mpr ⟨by (repeat (first | exact List.Mem.head _ | apply List.Mem.tail)), ?_⟩)))
    (h2 : ∀ x ∈ Γc.map (·.name), sc'.names.lookup x = some .free := by (first | (dsimp only [List.append, List.map, HAppend.hAppend, Append.append]; decide) | decide))
    (h3 : ∀ p ∈ sc'.names, p.2 = NameKind.free → p.1 ∈ Γ.map (·.name) := by (first | (dsimp only [List.append, List.map, HAppend.hAppend, Append.append]; decide) | decide)) : Caught Γ sc' Γc :=
  ⟨fun b hb => ⟨h1 hb, h2 _ (List.mem_map_of_mem hb)⟩, h3⟩

noncomputable def fPick : Fn := fnOfStm 15 (bindPos ["pile", "sums", "size", "weak"])
theorem fits_pick : FnFits fPick := ⟨rfl, rfl, rfl, by decide, by decide⟩

/-- the searches among sums -/
noncomputable def sL (sums : List Int) (x : Int) : Nat := blw (fun j => sums.getD j 0) x 0 sums.length
noncomputable def sR (sums : List Int) (x : Int) : Nat := brw (fun j => sums.getD j 0) x 0 sums.length
noncomputable def picks (pile sums : List Int) (size : Int) (weak : Bool) : List Int :=
  [pile.getD (sL sums ((size + 1).fdiv 2)) 0, pile.getD (sR sums (size.fdiv 2)) 0] ++
    (if weak then (rng 0 size.toNat).map fun t => pile.getD (sR sums t) 0 else (rng 0 size.toNat).map fun t => pile.getD (sL sums (t + 1)) 0)
noncomputable def okPicks (pile sums : List Int) (size : Int) (weak : Bool) : Bool :=
  decide (0 ≤ size) && decide (size < 1000) && decide (pile.length < 1000) && decide (sums.length < 1000) && decide (sL sums ((size + 1).fdiv 2) < pile.length) && decide (sR sums (size.fdiv 2) < pile.length) &&
    (rng 0 size.toNat).all fun t => if weak then decide (sR sums t < pile.length) else decide (sL sums (t + 1) < pile.length)

section
variable {prog : Program} {w : World} {D : Wd} {P : Addr → Prop} {n : Nat} {sc : Scope} {Γ : List Bnd} {aL aR : Addr}

theorem Ev.searchL {e₁ e₂ : Expr} {p pos : Pos} {sums : List Int} {x : Int} (hl : D.fn "bisect_left" = some (aL, fBL)) (h₁ : Ev prog w D (n + 2) sc Γ P e₁ (rRoot rInt) sums) (h₂ : Ev prog w D (n + 2) sc Γ P e₂ rInt x) (hs : sums.length < 1000)
    (hx : sc.names.lookup ("bisect_left" : Str) = some .globalImplicit := by decide) (ht : ∀ env, backTo pos (starEach [e₁, e₂] env) = [e₁, e₂].map fun e => (false, eval e env) := by intro _; rfl)
    (hkt : ∀ env, backToKw pos (keywordEach [] env) = (([] : List Str).zip ([] : List Expr)).map fun q => (some q.1, (do let v ← eval q.2 env; standAt pos; pure v)) := by intro _; rfl) :
    Ev prog w D (n + 2) sc Γ P (.Call (.Name "bisect_left" p) [e₁, e₂] [] pos) rInt ((sL sums x : Nat) : Int) :=
  Ev.call (bs := [⟨rRoot rInt, sums⟩, ⟨rInt, x⟩]) (names := []) (ks := []) (kes := []) (Ev.glob hx (D.fl _ _ _ hl)) hl ⟨h₁, h₂, trivial⟩ trivial (left_call2 hl (by omega) fun j hj => getD_some hj) (by simp) ht hkt rfl
theorem Ev.searchR {e₁ e₂ : Expr} {p pos : Pos} {sums : List Int} {x : Int} (hl : D.fn "bisect_right" = some (aR, fBR)) (h₁ : Ev prog w D (n + 2) sc Γ P e₁ (rRoot rInt) sums) (h₂ : Ev prog w D (n + 2) sc Γ P e₂ rInt x) (hs : sums.length < 1000)
    (hx : sc.names.lookup ("bisect_right" : Str) = some .globalImplicit := by decide) (ht : ∀ env, backTo pos (starEach [e₁, e₂] env) = [e₁, e₂].map fun e => (false, eval e env) := by intro _; rfl)
    (hkt : ∀ env, backToKw pos (keywordEach [] env) = (([] : List Str).zip ([] : List Expr)).map fun q => (some q.1, (do let v ← eval q.2 env; standAt pos; pure v)) := by intro _; rfl) :
    Ev prog w D (n + 2) sc Γ P (.Call (.Name "bisect_right" p) [e₁, e₂] [] pos) rInt ((sR sums x : Nat) : Int) :=
  Ev.call (bs := [⟨rRoot rInt, sums⟩, ⟨rInt, x⟩]) (names := []) (ks := []) (kes := []) (Ev.glob hx (D.fl _ _ _ hl)) hl ⟨h₁, h₂, trivial⟩ trivial (right_call2 hl (by omega) fun j hj => getD_some hj) (by simp) ht hkt rfl


variable {α β γ : Type} {r : Rel α} {r' : Rel β} {r₂ : Rel γ} {sc' : Scope} {Γc : List Bnd}
/-- a comprehension of one clause, with tests -/
theorem Ev.comp1 {elt iter target : Expr} {ifs : List Expr} {pos : Pos} {xs : List α} {p : α → Bool} {f : α → β} {Δ : α → List Bnd}
    (hit : Ev prog w D n sc Γ P iter (rSeq r) xs) (hcg : Caught Γ sc' Γc) (sr' : Solid r') (htgt : Tgt prog w D sc' Γc target r Δ)
    (htest : ∀ Pin, ∀ x ∈ xs, Tests prog w D n sc' (Δ x ++ Γc) Pin ifs (p x)) (helt : ∀ Pin, ∀ x ∈ xs, p x = true → Ev prog w D n sc' (Δ x ++ Γc) Pin elt r' (f x))
    (hsz : xs.length ≤ 1000) (hfit : Fits sc sc' := by decide) (hs : ∀ env x, foldedSetIterable iter env x = pure x := by intro _ _; rfl) :
    Ev prog w D n sc Γ P (.ListComp elt [⟨target, iter, ifs, 0⟩] sc' pos) (rList r') ((xs.filter p).map f) :=
  (CompRun.ev rfl sr' (run1 hit hfit hcg sr' htgt htest helt (by rw [sizeLine_eq]; omega) hs)).ev
theorem Ev.compAll {elt iter target : Expr} {pos : Pos} {xs : List α} {f : α → β} {Δ : α → List Bnd}
    (hit : Ev prog w D n sc Γ P iter (rSeq r) xs) (hcg : Caught Γ sc' Γc) (sr' : Solid r') (htgt : Tgt prog w D sc' Γc target r Δ)
    (helt : ∀ Pin, ∀ x ∈ xs, Ev prog w D n sc' (Δ x ++ Γc) Pin elt r' (f x))
    (hsz : xs.length ≤ 1000) (hfit : Fits sc sc' := by decide) (hs : ∀ env x, foldedSetIterable iter env x = pure x := by intro _ _; rfl) :
    Ev prog w D n sc Γ P (.ListComp elt [⟨target, iter, [], 0⟩] sc' pos) (rList r') (xs.map f) :=
  Ev.cast (Ev.comp1 (p := fun _ => true) (f := f) hit hcg sr' htgt (fun _ _ _ => .inl ⟨rfl, rfl⟩) (fun Pin x hx _ => helt Pin x hx) hsz hfit hs) (congrArg (List.map f) (List.filter_eq_self.mpr fun _ _ => rfl))
theorem rng_length (a : Int) (k : Nat) : (rng a k).length = k := by unfold rng; rw [List.length_map, List.length_range]
theorem rng_mem' {a : Int} {k : Nat} {x : Int} (h : x ∈ rng a k) : a ≤ x ∧ x < a + k := by
  obtain ⟨i, hi⟩ := List.getElem?_of_mem h
  exact rng_mem hi

theorem pick_block {pile sums : List Int} {size : Int} {weak : Bool} (hl : D.fn "bisect_left" = some (aL, fBL)) (hr : D.fn "bisect_right" = some (aR, fBR)) (ok : okPicks pile sums size weak = true) (P : Addr → Prop) :
    Ret prog w D (n + 2) fPick.scope P [⟨"pile", rRoot rInt, pile⟩, ⟨"sums", rRoot rInt, sums⟩, ⟨"size", rInt, size⟩, ⟨"weak", rBool, weak⟩] [] fPick.body (rList rInt) (picks pile sums size weak) := by
  unfold okPicks at ok
  simp only [Bool.and_eq_true, decide_eq_true_eq, List.all_eq_true] at ok
  obtain ⟨⟨⟨⟨⟨⟨h1, h2⟩, h3⟩, h4⟩, h5⟩, h6⟩, h7⟩ := ok
  refine Ret.step (Ex.assign (r := rList rInt) (y := [pile.getD (sL sums ((size + 1).fdiv 2)) 0, pile.getD (sR sums (size.fdiv 2)) 0]) Seen.self (Ev.list ⟨Ev.idx Ev.var (Ev.searchL hl Ev.var (Ev.bin (Ev.bin Ev.var Ev.int (op_add _ _)) Ev.int (op_floordiv _ _ (by decide) (PyProof.noPylong_small (by decide)))) h4) (by omega) (by omega) ?_, Ev.idx Ev.var (Ev.searchR hr Ev.var (Ev.bin Ev.var Ev.int (op_floordiv _ _ (by decide) (PyProof.noPylong_small (by decide)))) h4) (by omega) (by omega) ?_, trivial⟩ (by decide)) (solid_list solid_int) (by decide) grow) ?_
  · rw [Int.toNat_natCast]; exact getD_some h5
  · rw [Int.toNat_natCast]; exact getD_some h6
  cases weak with
  | true =>
    refine Ret.ifRet Seen.self (Et.val Ev.var) (Ret.ret Seen.self (Ev.bin (Ev.root Ev.var) (Ev.root (Ev.compAll (r := rInt) (xs := rng 0 size.toNat) (f := fun t => pile.getD (sR sums t) 0) (Δ := fun x => [⟨"turn", rInt, x⟩]) (Γc := [⟨"pile", rRoot rInt, pile⟩, ⟨"sums", rRoot rInt, sums⟩]) (Ev.rseq (Ev.range1 Ev.var h1 (by omega))) caught solid_int (Tgt.name (by decide) fresh_name) (fun Pin x hx => ?_) (by rw [rng_length]; omega))) (op_addL rInt _ _ ?_)))
    · have h8 := h7 x hx
      simp only [if_true, decide_eq_true_eq] at h8
      exact Ev.idx Ev.var (Ev.searchR hr Ev.var Ev.var h4) (by omega) (by omega) (by rw [Int.toNat_natCast]; exact getD_some h8)
    · rw [sizeLine_eq, List.length_map, rng_length]; simp only [List.length_cons, List.length_nil]; omega
  | false =>
    refine Ret.step (Ex.ifNot Seen.self (Et.val Ev.var)) (Ret.ret Seen.self (Ev.bin (Ev.root Ev.var) (Ev.root (Ev.compAll (r := rInt) (xs := rng 0 size.toNat) (f := fun t => pile.getD (sL sums (t + 1)) 0) (Δ := fun x => [⟨"turn", rInt, x⟩]) (Γc := [⟨"pile", rRoot rInt, pile⟩, ⟨"sums", rRoot rInt, sums⟩]) (Ev.rseq (Ev.range1 Ev.var h1 (by omega))) caught solid_int (Tgt.name (by decide) fresh_name) (fun Pin x hx => ?_) (by rw [rng_length]; omega))) (op_addL rInt _ _ ?_)))
    · have h8 := h7 x hx
      simp only [Bool.false_eq_true, if_false, decide_eq_true_eq] at h8
      exact Ev.idx Ev.var (Ev.searchL hl Ev.var (Ev.bin Ev.var Ev.int (op_add _ _)) h4) (by omega) (by omega) (by rw [Int.toNat_natCast]; exact getD_some h8)
    · rw [sizeLine_eq, List.length_map, rng_length]; simp only [List.length_cons, List.length_nil]; omega
end
end Mine
end

section
open PySem PySem.W
set_option Elab.async false
set_option linter.unusedVariables false
set_option linter.unusedSectionVars false
set_option maxRecDepth 10000
open PyProof.Rows
namespace Mine
variable [Lim]

noncomputable def bnds : List Str → List Bv → List Bnd
  | x :: xs, b :: bs => ⟨x, b.r, b.x⟩ :: bnds xs bs
  | _, _ => []
theorem bnds_zip {P : Addr → Prop} {h : Heap} : ∀ {names : List Str} {bs : List Bv} {vs : List Value}, Are P h vs bs → names.length = bs.length → ∀ b ∈ bnds names bs, ∃ v, (b.name, v) ∈ names.zip vs ∧ b.r.is P h v b.x
  | [], _, _, _, _, b, hb => by cases hb
  | x :: xs, [], _, _, hl, b, hb => by cases hl
  | x :: xs, c :: bs, v :: vs, .cons a t, hl, b, hb => by
    rcases List.mem_cons.mp hb with rfl | hb
    · exact ⟨v, .head _, a⟩
    · obtain ⟨u, h1, h2⟩ := bnds_zip t (by simpa using hl) b hb
      exact ⟨u, .tail _ h1, h2⟩
/-- arguments by place -/
theorem pos_args {F : Fn} {names : List Str} {bs : List Bv} (hF : F.bind = bindPos names) (hn : names.length = bs.length) (hst : ∀ x ∈ names, Stor F.scope x) (hnd : names.Nodup) : ∀ vs kvs (h : Heap) (P : Addr → Prop), Are P h vs bs → Are P h kvs [] →
    ∃ binds, F.bind ⟨vs, ([] : List Str).zip kvs⟩ binds ∧ (∀ p ∈ binds, Stor F.scope p.1) ∧ (binds.map (·.1)).Nodup ∧ ∀ b ∈ bnds names bs, ∃ v, (b.name, v) ∈ binds ∧ b.r.is P h v b.x := by
  intro vs kvs h P hvs hkvs
  cases hkvs
  have hl : vs.length = names.length := by rw [hvs.length, hn]
  have hm : (names.zip vs).map (·.1) = names := by rw [List.map_fst_zip]; omega
  refine ⟨names.zip vs, by rw [hF]; exact ⟨rfl, hl, rfl⟩, fun p hp => hst _ (List.of_mem_zip hp).1, by rw [hm]; exact hnd, bnds_zip hvs hn⟩

theorem seen_own {Γ : List Bnd} {M : List Mu} {nm : Str} {m : Mu} (hm : m ∈ M) (hΓ : (⟨nm, rAddr, m.a⟩ : Bnd) ∈ Γ) : Seen Γ M (⟨nm, rRoot m.r, m.xs⟩ :: Γ) := by
  intro b hb
  rcases List.mem_cons.mp hb with rfl | hb
  · exact .inr ⟨nm, m, hm, hΓ, rfl⟩
  · exact .inl hb
theorem getD_at {α : Type} {xs : List α} {i : Nat} {d : α} (h : i < xs.length) : xs[i]? = some (xs.getD i d) := by
  rw [List.getD_eq_getElem?_getD, List.getElem?_eq_getElem h]; rfl

theorem pick_call {prog : Program} {w : World} {D : Wd} {P : Addr → Prop} {n : Nat} {aL aR a : Addr} {nm : Str} {pile sums : List Int} {size : Int} {weak : Bool} (hx : D.fn nm = some (a, fPick)) (hl : D.fn "bisect_left" = some (aL, fBL)) (hr : D.fn "bisect_right" = some (aR, fBR)) (ok : okPicks pile sums size weak = true) :
    CallsTo prog w D (n + 3) P (.ref a) [⟨rRoot rInt, pile⟩, ⟨rRoot rInt, sums⟩, ⟨rInt, size⟩, ⟨rBool, weak⟩] [] [] (rList rInt) (picks pile sums size weak) :=
  ret_call hx fits_pick (pos_args rfl rfl (by decide) (by decide)) fun P => pick_block hl hr ok P

-- the rises
noncomputable def below (row : List Int) (weak : Bool) (k j : Int) : Bool := decide (row.getD k.toNat 1 < row.getD j.toNat 1) || (weak && (row.getD k.toNat 1 == row.getD j.toNat 1))
noncomputable def fitsOf (bel : Int → Int → Bool) (place : Int) : List Int := (rng 0 place.toNat).filter fun k => bel k place
noncomputable def atE {α : Type} (e : List (List α)) (k : Int) : List α := e.getD k.toNat []
noncomputable def sizeOf' (bel : Int → Int → Bool) (e : List (List (List Int))) (place : Int) : Int := maxL ([0] ++ (fitsOf bel place).map fun k => (((atE e k).getD 0 []).length : Int))
noncomputable def longestOf (bel : Int → Int → Bool) (e : List (List (List Int))) (place : Int) : List (List Int) :=
  (fitsOf bel place).flatMap fun k => ((atE e k).filter fun rise => ((rise.length : Int) == sizeOf' bel e place)).map fun rise => rise ++ [place]
noncomputable def entry (bel : Int → Int → Bool) (e : List (List (List Int))) (place : Int) : List (List Int) :=
  if (!leq (fun a b : Int => a == b) (fitsOf bel place) []) then longestOf bel e place else [[place]]
noncomputable def endings (bel : Int → Int → Bool) : Nat → List (List (List Int))
  | 0 => []
  | i + 1 => endings bel i ++ [entry bel (endings bel i) i]
noncomputable def rises (bel : Int → Int → Bool) (m : Nat) : List (List Int) :=
  let size := maxL ((endings bel m).map fun r => ((r.getD 0 []).length : Int))
  (endings bel m).flatMap fun rs => (rs.filter fun rise => ((rise.length : Int) == size)).map fun rise => rise
noncomputable def okRises (bel : Int → Int → Bool) (m : Nat) : Bool :=
  decide (0 < m) && decide (m < 100) && decide ((rises bel m).length < 1000) && (endings bel m).all (fun r => decide (0 < r.length) && r.all fun x => decide (x.length < 1000)) && (List.range m).all fun i => decide ((longestOf bel (endings bel i) i).length < 1000)
theorem endings_length (bel : Int → Int → Bool) : ∀ i, (endings bel i).length = i
  | 0 => rfl
  | i + 1 => by rw [endings, List.length_append, endings_length bel i]; rfl
theorem endings_prefix (bel : Int → Int → Bool) (i : Nat) : ∀ m, i ≤ m → ∃ t, endings bel m = endings bel i ++ t
  | 0, h => ⟨[], by rw [Nat.le_zero.mp h]; rfl⟩
  | m + 1, h => by
    by_cases c : i = m + 1
    · exact ⟨[], by rw [c, List.append_nil]⟩
    · obtain ⟨t, e⟩ := endings_prefix bel i m (by omega)
      exact ⟨t ++ [entry bel (endings bel m) m], by rw [endings]; conv => lhs; arg 1; rw [e]
                                                    rw [List.append_assoc]⟩

noncomputable def fRise : Fn := fnOfStm 10 (bindPos ["row", "weak"])
theorem fits_rise : FnFits fRise := ⟨rfl, rfl, rfl, by decide, by decide⟩
section
variable {prog : Program} {w : World} {D : Wd} {P : Addr → Prop} {n : Nat}
noncomputable abbrev rRises : Rel (List (List Int)) := rList (rList rInt)
theorem solid_lint : Solid (rList rInt) := solid_list solid_int
theorem solid_rises : Solid rRises := solid_list solid_lint

theorem CompRun.cast {β : Type} {r' : Rel β} {sc sc' : Scope} {Γ : List Bnd} {e iter : Expr} {pos : Pos} {ys zs : List β} (h : CompRun prog w D n sc sc' Γ P e iter pos r' ys) (q : ys = zs) : CompRun prog w D n sc sc' Γ P e iter pos r' zs := q ▸ h
theorem rise_block {row : List Int} {weak : Bool} (ok : okRises (below row weak) row.length = true) (P : Addr → Prop) :
    Ret prog w D n fRise.scope P [⟨"row", rRoot rInt, row⟩, ⟨"weak", rBool, weak⟩] [] fRise.body (rList (rList rInt)) (rises (below row weak) row.length) := by
  unfold okRises at ok
  simp only [Bool.and_eq_true, decide_eq_true_eq, List.all_eq_true] at ok
  obtain ⟨⟨⟨⟨h1, h2⟩, h3⟩, h4⟩, h5⟩ := ok
  refine Ret.new (r' := rRises) Seen.self EvNew.nil solid_rises (by decide) (fun a => grow) fun a P' hP' => ?_
  refine Ret.step (Ex.for (xs := rng 0 ((row.length : Int)).toNat) (Γi := fun _ => [⟨"ending", rAddr, a⟩, ⟨"row", rRoot rInt, row⟩, ⟨"weak", rBool, weak⟩]) (Mi := fun i => [⟨a, rRises, endings (below row weak) i⟩]) (Δ := fun x => [⟨"place", rInt, x⟩]) Seen.self
    (Src.range (Ev.range1 (Ev.len Ev.var (by omega)) (by omega) (by omega))) (fun b hb => hb) (fun i => Tgt.name (by decide) fresh_name) (fun i => rfl) (fun i x hx => ?_)) ?_
  · have hxi := rng_get _ _ _ _ hx
    rw [Int.zero_add] at hxi
    subst hxi
    have hi : i < row.length := by
      have := (rng_mem hx).2; omega
    obtain ⟨t, et⟩ := endings_prefix (below row weak) i row.length (by omega)
    have hne : ∀ k : Int, 0 ≤ k → k < i → ∃ r, (endings (below row weak) i)[k.toNat]? = some r ∧ 0 < r.length ∧ atE (endings (below row weak) i) k = r ∧ ∀ x ∈ r, x.length < 1000 := by
      intro k hk0 hk
      have hl : k.toNat < (endings (below row weak) i).length := by rw [endings_length]; omega
      refine ⟨atE (endings (below row weak) i) k, getD_at hl, ?_, rfl, ?_⟩
      all_goals
        have hm : atE (endings (below row weak) i) k ∈ endings (below row weak) row.length := by
          rw [et]; exact List.mem_append_left _ (List.mem_of_getElem? (getD_at hl))
        have := h4 _ hm
      · exact this.1
      · exact this.2
    simp only [List.singleton_append]
    have own := seen_own (Γ := [⟨"place", rInt, (i : Int)⟩, ⟨"ending", rAddr, a⟩, ⟨"row", rRoot rInt, row⟩, ⟨"weak", rBool, weak⟩]) (M := [⟨a, rRises, endings (below row weak) i⟩]) (nm := "ending") (.head _) (.tail _ (.head _))
    have hrow : ∀ {Γ : List Bnd} {sc' : Scope} {Pin : Addr → Prop} {x : Str} {p p' q : Pos} {k : Int}, (⟨"row", rRoot rInt, row⟩ : Bnd) ∈ Γ → (⟨x, rInt, k⟩ : Bnd) ∈ Γ → 0 ≤ k → k < row.length → (x == ("__debug__" : Str)) = false → (x == ("__classdict__" : Str)) = false →
        Ev prog w D n sc' Γ Pin (.Subscript (.Name "row" p) (.Name x p') q) rInt (row.getD k.toNat 1) := fun hr hk h0 hl d1 d2 => Ev.idx (Ev.var hr) (Ev.var hk d1 d2) h0 (by omega) (getD_at (by omega))
    refine ExS.cons (Γ' := [⟨"fits", rList rInt, fitsOf (below row weak) i⟩, ⟨"place", rInt, (i : Int)⟩, ⟨"ending", rAddr, a⟩, ⟨"row", rRoot rInt, row⟩, ⟨"weak", rBool, weak⟩]) (M' := [⟨a, rRises, endings (below row weak) i⟩]) rfl
      (Ex.assignComp (r' := rInt) (ys := fitsOf (below row weak) i) Seen.self (CompRun.cast (run1 (r := rInt) (xs := rng 0 ((i : Int)).toNat) (p := fun k => below row weak k i) (f := fun k => k) (Δ := fun x => [⟨"k", rInt, x⟩]) (Γc := [⟨"place", rInt, (i : Int)⟩, ⟨"row", rRoot rInt, row⟩, ⟨"weak", rBool, weak⟩])
        (Ev.rseq (Ev.range1 Ev.var (by omega) (by omega))) (by decide) caught solid_int (Tgt.name (by decide) fresh_name) (fun Pin k hk => ?_) (fun Pin k hk _ => Ev.var) (by rw [rng_length, sizeLine_eq]; omega)) (List.map_id _)) solid_int (by decide) grow) ?_
    · obtain ⟨hk0, hk1⟩ := rng_mem' hk
      refine .inr ⟨_, rfl, Et.or (Et.cmp (hrow (.tail _ (.tail _ (.head _))) (.head _) hk0 (by omega) (by decide) (by decide)) (hrow (.tail _ (.tail _ (.head _))) (.tail _ (.head _)) (by omega) (by omega) (by decide) (by decide)) (op_lt _ _)) fun _ => Et.and (Et.val Ev.var) fun _ => Et.cmp (hrow (.tail _ (.tail _ (.head _))) (.head _) hk0 (by omega) (by decide) (by decide)) (hrow (.tail _ (.tail _ (.head _))) (.tail _ (.head _)) (by omega) (by omega) (by decide) (by decide)) (op_eq _ _)⟩
    have own := seen_own (Γ := [⟨"fits", rList rInt, fitsOf (below row weak) i⟩, ⟨"place", rInt, (i : Int)⟩, ⟨"ending", rAddr, a⟩, ⟨"row", rRoot rInt, row⟩, ⟨"weak", rBool, weak⟩]) (M := [⟨a, rRises, endings (below row weak) i⟩]) (nm := "ending") (.head _) (.tail _ (.tail _ (.head _)))
    have hfl : (fitsOf (below row weak) i).length ≤ 1000 := by
      have := List.length_filter_le (fun k => below row weak k i) (rng 0 ((i : Int)).toNat)
      rw [rng_length] at this
      unfold fitsOf
      omega
    have hfm : ∀ k ∈ fitsOf (below row weak) i, 0 ≤ k ∧ k < i := fun k hk => by
      have := rng_mem' (List.mem_filter.mp hk).1
      omega
    refine ExS.cons (Γ' := [⟨"size", rInt, sizeOf' (below row weak) (endings (below row weak) i) i⟩, ⟨"fits", rList rInt, fitsOf (below row weak) i⟩, ⟨"place", rInt, (i : Int)⟩, ⟨"ending", rAddr, a⟩, ⟨"row", rRoot rInt, row⟩, ⟨"weak", rBool, weak⟩]) (M' := [⟨a, rRises, endings (below row weak) i⟩]) rfl
      (Ex.assign (r := rInt) (y := sizeOf' (below row weak) (endings (below row weak) i) i) own (Ev.max (Ev.root (Ev.bin (Ev.root (Ev.list (xs := [0]) ⟨Ev.int, trivial⟩ (by decide))) (Ev.root (Ev.compAll (r := rInt) (r' := rInt) (xs := fitsOf (below row weak) i) (f := fun k => (((atE (endings (below row weak) i) k).getD 0 []).length : Int)) (Δ := fun x => [⟨"k", rInt, x⟩]) (Γc := [⟨"ending", rRoot rRises, endings (below row weak) i⟩])
        (Ev.seqL Ev.var) caught solid_int (Tgt.name (by decide) fresh_name) (fun Pin k hk => ?_) hfl)) (op_addL rInt _ _ ?_))) ?_) solid_int (by decide) grow) ?_
    · obtain ⟨hk0, hk1⟩ := hfm k hk
      obtain ⟨r, e1, e2, e3, e4⟩ := hne k hk0 hk1
      rw [e3]
      have e5 : r[(0 : Int).toNat]? = some (r.getD 0 []) := getD_at e2
      exact Ev.len (Ev.root (Ev.idx (Ev.root (Ev.idx Ev.var Ev.var hk0 (by omega) e1)) Ev.int (by decide) (by decide) e5)) (by
        have := e4 _ (List.mem_of_getElem? e5); omega)
    · rw [sizeLine_eq, List.length_map]; simp only [List.length_cons, List.length_nil]; omega
    · rw [List.length_append]; simp only [List.length_cons, List.length_nil]; omega
    have own := seen_own (Γ := [⟨"size", rInt, sizeOf' (below row weak) (endings (below row weak) i) i⟩, ⟨"fits", rList rInt, fitsOf (below row weak) i⟩, ⟨"place", rInt, (i : Int)⟩, ⟨"ending", rAddr, a⟩, ⟨"row", rRoot rInt, row⟩, ⟨"weak", rBool, weak⟩]) (M := [⟨a, rRises, endings (below row weak) i⟩]) (nm := "ending") (.head _) (.tail _ (.tail _ (.tail _ (.head _))))
    have h6 := h5 i (List.mem_range.mpr hi)
    refine ExS.cons (Γ' := [⟨"longest", rRises, longestOf (below row weak) (endings (below row weak) i) i⟩, ⟨"size", rInt, sizeOf' (below row weak) (endings (below row weak) i) i⟩, ⟨"fits", rList rInt, fitsOf (below row weak) i⟩, ⟨"place", rInt, (i : Int)⟩, ⟨"ending", rAddr, a⟩, ⟨"row", rRoot rInt, row⟩, ⟨"weak", rBool, weak⟩]) (M' := [⟨a, rRises, endings (below row weak) i⟩]) rfl
      (Ex.assignComp (r' := rList rInt) (ys := longestOf (below row weak) (endings (below row weak) i) i) own (CompRun.cast (run2 (r := rInt) (r₂ := rList rInt) (xs := fitsOf (below row weak) i) (ys := fun k => atE (endings (below row weak) i) k) (p := fun _ => true) (q := fun _ rise => ((rise.length : Int) == sizeOf' (below row weak) (endings (below row weak) i) i)) (f := fun _ rise => rise ++ [(i : Int)]) (Δ := fun x => [⟨"k", rInt, x⟩]) (Δ₂ := fun _ y => [⟨"rise", rList rInt, y⟩])
        (Γc := [⟨"ending", rRoot rRises, endings (below row weak) i⟩, ⟨"size", rInt, sizeOf' (below row weak) (endings (below row weak) i) i⟩, ⟨"place", rInt, (i : Int)⟩])
        (Ev.seqL Ev.var) (by decide) caught solid_lint solid_lint (Tgt.name (by decide) fresh_name) (fun Pin k hk => .inl ⟨rfl, rfl⟩) (fun Pin k hk _ => ?_) (fun k hk => Tgt.name (by decide) fresh_name) (fun Pin k hk _ rise hrise => ?_) (fun Pin k hk _ rise hrise _ => ?_) ?_) ?_) solid_lint (by decide) grow) ?_
    · obtain ⟨hk0, hk1⟩ := hfm k hk
      obtain ⟨r, e1, e2, e3, e4⟩ := hne k hk0 hk1
      rw [e3]
      exact Ev.idx Ev.var Ev.var hk0 (by omega) e1
    · obtain ⟨hk0, hk1⟩ := hfm k hk
      obtain ⟨r, e1, e2, e3, e4⟩ := hne k hk0 hk1
      have := e4 rise (e3 ▸ hrise)
      exact .inr ⟨_, rfl, Et.cmp (Ev.len (Ev.root Ev.var) (by omega)) Ev.var (op_eq _ _)⟩
    · obtain ⟨hk0, hk1⟩ := hfm k hk
      obtain ⟨r, e1, e2, e3, e4⟩ := hne k hk0 hk1
      have := e4 rise (e3 ▸ hrise)
      exact Ev.bin (Ev.root Ev.var) (Ev.root (Ev.list (xs := [(i : Int)]) ⟨Ev.var, trivial⟩ (by decide))) (op_addL rInt _ _ (by rw [sizeLine_eq]; simp only [List.length_cons, List.length_nil]; omega))
    · rw [sizeLine_eq]
      exact Nat.le_of_lt (Nat.lt_of_lt_of_le h6 (by decide))
    · rfl
    refine ExS.cons (Γ' := [⟨"ending", rAddr, a⟩, ⟨"row", rRoot rInt, row⟩, ⟨"weak", rBool, weak⟩]) (M' := [⟨a, rRises, endings (below row weak) i ++ [entry (below row weak) (endings (below row weak) i) i]⟩]) rfl ?_ (ExS.nil fun b hb => hb)
    refine Ex.append (M₁ := []) (M₂ := []) (m := ⟨a, rRises, endings (below row weak) i⟩) (y := entry (below row weak) (endings (below row weak) i) i) rfl Seen.self Ev.var (Ev.ite (Et.cmp (Ev.root Ev.var) (Ev.root (Ev.list (xs := ([] : List Int)) (r := rInt) trivial (by decide))) (op_neL eqR_int _ _)) (fun _ => Ev.var) (fun _ => Ev.list (xs := [[(i : Int)]]) (r := rList rInt) ⟨Ev.list (xs := [(i : Int)]) (r := rInt) ⟨Ev.var, trivial⟩ (by decide), trivial⟩ (by decide))) ?_ fun b hb => ?_
    · show (endings (below row weak) i).length ≤ _
      rw [sizeLine_eq, endings_length]; omega
    · exact .tail _ (.tail _ (.tail _ (.tail _ hb)))
  · rw [rng_length, Int.toNat_natCast]
    have own := seen_own (Γ := [⟨"ending", rAddr, a⟩, ⟨"row", rRoot rInt, row⟩, ⟨"weak", rBool, weak⟩]) (M := [⟨a, rRises, endings (below row weak) row.length⟩]) (nm := "ending") (.head _) (.head _)
    refine Ret.step (Γ' := [⟨"size", rInt, maxL ((endings (below row weak) row.length).map fun r => ((r.getD 0 []).length : Int))⟩, ⟨"ending", rAddr, a⟩, ⟨"row", rRoot rInt, row⟩, ⟨"weak", rBool, weak⟩]) (M' := [⟨a, rRises, endings (below row weak) row.length⟩])
      (Ex.assign (r := rInt) own (Ev.max (Ev.root (Ev.compAll (r := rRises) (r' := rInt) (xs := endings (below row weak) row.length) (f := fun r => ((r.getD 0 []).length : Int)) (Δ := fun x => [⟨"rises", rRises, x⟩]) (Γc := [])
        (Ev.seq Ev.var) caught solid_int (Tgt.name (by decide) fresh_name) (fun Pin r hr => ?_) (by rw [endings_length]; omega))) (by rw [List.length_map, endings_length]; exact h1)) solid_int (by decide) grow) ?_
    · obtain ⟨e1, e2⟩ := h4 r hr
      have e5 : r[(0 : Int).toNat]? = some (r.getD 0 []) := getD_at e1
      exact Ev.len (Ev.root (Ev.idx (Ev.root Ev.var) Ev.int (by decide) (by decide) e5)) (by have := e2 _ (List.mem_of_getElem? e5); omega)
    generalize hsz : maxL ((endings (below row weak) row.length).map fun r => ((r.getD 0 []).length : Int)) = size
    have own := seen_own (Γ := [⟨"size", rInt, size⟩, ⟨"ending", rAddr, a⟩, ⟨"row", rRoot rInt, row⟩, ⟨"weak", rBool, weak⟩]) (M := [⟨a, rRises, endings (below row weak) row.length⟩]) (nm := "ending") (.head _) (.tail _ (.head _))
    refine Ret.cast (Ret.ret own (EvNew.ev (CompRun.ev rfl solid_lint (run2 (r := rRises) (r₂ := rList rInt) (xs := endings (below row weak) row.length) (ys := fun r => r) (p := fun _ => true) (q := fun _ rise => ((rise.length : Int) == size)) (f := fun _ rise => rise) (Δ := fun x => [⟨"rises", rRises, x⟩]) (Δ₂ := fun _ y => [⟨"rise", rList rInt, y⟩])
        (Γc := [⟨"size", rInt, size⟩]) (Ev.seq Ev.var) (by decide) caught solid_lint solid_lint (Tgt.name (by decide) fresh_name) (fun Pin r hr => .inl ⟨rfl, rfl⟩) (fun Pin r hr _ => Ev.var) (fun r hr => Tgt.name (by decide) fresh_name) (fun Pin r hr _ rise hrise => ?_) (fun Pin r hr _ rise hrise _ => Ev.var) ?_)))) ?_
    · have := (h4 r hr).2 rise hrise
      exact .inr ⟨_, rfl, Et.cmp (Ev.len (Ev.root Ev.var) (by omega)) Ev.var (op_eq _ _)⟩
    · rw [sizeLine_eq]
      unfold rises at h3
      rw [hsz] at h3
      exact Nat.le_of_lt (Nat.lt_of_lt_of_le h3 (by decide))
    · unfold rises
      rw [hsz]
      rfl
theorem rise_call {nm : Str} {a : Addr} {row : List Int} {weak : Bool} (hx : D.fn nm = some (a, fRise)) (ok : okRises (below row weak) row.length = true) :
    CallsTo prog w D (n + 1) P (.ref a) [⟨rRoot rInt, row⟩, ⟨rBool, weak⟩] [] [] (rList (rList rInt)) (rises (below row weak) row.length) :=
  ret_call hx fits_rise (pos_args rfl rfl (by decide) (by decide)) fun P => rise_block ok P
end
end Mine
end

section
open PySem PySem.W
set_option Elab.async false
set_option linter.unusedVariables false
set_option linter.unusedSectionVars false
set_option maxRecDepth 10000
open PyProof.Rows
namespace Mine
variable [Lim]
section
variable {prog : Program} {w : World} {D : Wd} {g : Heap} {sc sc' : Scope} {env : Env} {P : Addr → Prop} {Γ Γ' Γ'' Γ₀ Θ : List Bnd} {M M' M'' M₁ M₂ : List Mu} {n : Nat} {A : Around} {α β γ : Type} {r : Rel α} {r' : Rel β} {s : Shared} {E : Value → Shared → Prop}

theorem St.perm (t : St A D g sc env P Γ M s) (h : M.Perm M') : St A D g sc env P Γ M' s :=
  ⟨t.ok, t.keep, t.fm, t.own, t.pown, t.free, t.vars, fun m hm => t.mus m (h.mem_iff.mpr hm), (h.map _).nodup_iff.mp t.dist⟩
theorem ItAt.narrow {P' : Addr → Prop} {h : Heap} {I : Addr} {xs : List α} (it : ItAt r g P h I xs) (kg : Keep g h) (hP : ∀ b o, P b → h.get? b = some o → P' b) : ItAt r g P' h I xs := by
  have hg : ∀ b o, P b → g.get? b = some o → P' b := fun b o p e => by
    obtain ⟨o', e'⟩ := (kg b o e).alive
    exact hP b o' p e'
  rcases it with ⟨ax, i, items, hi, pa, hl, hp⟩ | q
  · refine .inl ⟨ax, i, items, hi, pa.imp (fun p => ?_) id, hl, paired_imp (fun v x y => ?_) hp⟩
    · obtain ⟨o, ho, _⟩ := id hl; exact hP ax o p ho
    · rcases y with y | ⟨sr, y⟩
      · exact .inl (r.weak hg y)
      · exact .inr ⟨sr, sr (fun b o p _ e => ⟨hP b o p e, e⟩) y⟩
  · exact .inr q

/-- a block that may make lists of its own -/
noncomputable def Grow (prog : Program) (w : World) (D : Wd) (n : Nat) (sc : Scope) (P : Addr → Prop) (Γ : List Bnd) (M : List Mu) (sts : List Stmt) (Γ' : List Bnd) (J : List Mu → Prop) : Prop :=
  ∀ A g env s (E : Value → Shared → Prop), Lv n A → EnvOk sc env → St A D g sc env P Γ M s →
    wpAny (model prog w) A (execs sts env) (fun f s' => f = .next ∧ ∃ P' M', (∀ b, P' b → P b) ∧ (∀ b o, P b → s.heap.get? b = some o → P' b) ∧ J M' ∧ St A D g sc env P' Γ' M' s' ∧ Chx (Mns sc env M) s s') E s
theorem Grow.of {sts : List Stmt} {J : List Mu → Prop} (h : ExS prog w D n sc P Γ M sts Γ' M') (hJ : J M') : Grow prog w D n sc P Γ M sts Γ' J := fun A g env s E hL hE t =>
  wpAny_mono (h A g env s E hL hE t) (fun f s' q => ⟨q.1, P, M', fun _ => id, fun _ _ p _ => p, hJ, q.2.1, q.2.2⟩) fun _ _ e => e
theorem Grow.step {st : Stmt} {sts : List Stmt} {J : List Mu → Prop} (hm : M'.map (·.a) = M.map (·.a)) (h : Ex prog w D n sc P Γ M st Γ' M') (k : Grow prog w D n sc P Γ' M' sts Γ'' J) : Grow prog w D n sc P Γ M (st :: sts) Γ'' J := by
  intro A g env s E hL hE t
  refine Mine.step (R := fun s' => St A D g sc env P Γ' M' s' ∧ Chx (Mns sc env M) s s') (h A g env s E hL hE t) fun s' q => ?_
  refine wpAny_mono (k A g env s' E hL hE q.1) (fun f s'' z => ?_) fun _ _ e => e
  obtain ⟨hf, P', N, h1, h2, h3, h4, h5⟩ := z
  refine ⟨hf, P', N, h1, fun b o p e => ?_, h3, h4, q.2.trans (h5.mono fun b x => x.imp id fun ⟨m, hm', e⟩ => ?_)⟩
  · by_cases x : Mns sc env M b
    · rcases x with x | ⟨m, hm', rfl⟩
      · exact absurd p (t.pown b x)
      · exact absurd p (t.mus m hm').1
    · obtain ⟨o', e'⟩ := (q.2.2 b o x e).alive
      exact h2 b o' p e'
  · have : b ∈ M'.map (·.a) := e ▸ List.mem_map_of_mem hm'
    rw [hm] at this
    obtain ⟨m', h1, h2⟩ := List.mem_map.mp this
    exact ⟨m', h1, h2⟩
theorem Grow.ifB {test : Expr} {body orelse : List Stmt} {pos : Pos} {b : Bool} {J : List Mu → Prop} (hs : Seen Γ M Θ) (ht : Et prog w D n sc Θ P test b) (hb : b = true → Grow prog w D n sc P Γ M body Γ' J) (ho : b = false → Grow prog w D n sc P Γ M orelse Γ' J) :
    Grow prog w D n sc P Γ M [.If test body orelse pos] Γ' J := by
  intro A g env s E hL hE t
  refine wpAny_execs_cons (wpAny_If (wpAny_mono (ht A env s E hL hE t.world t.free (t.seen hs)) (fun c s₁ q => ?_) fun _ _ e => e))
  obtain ⟨k, rfl⟩ := q
  have t₁ := t.keeps k
  have fin : ∀ {sts : List Stmt}, Grow prog w D n sc P Γ M sts Γ' J → wpAny (model prog w) A (execs sts env) (fun f s' => match f with
      | .next => wpAny (model prog w) A (execs [] env) (fun f s' => f = .next ∧ ∃ P' M', (∀ b, P' b → P b) ∧ (∀ b o, P b → s.heap.get? b = some o → P' b) ∧ J M' ∧ St A D g sc env P' Γ' M' s' ∧ Chx (Mns sc env M) s s') E s'
      | f => f = .next ∧ ∃ P' M', (∀ b, P' b → P b) ∧ (∀ b o, P b → s.heap.get? b = some o → P' b) ∧ J M' ∧ St A D g sc env P' Γ' M' s' ∧ Chx (Mns sc env M) s s') E s₁ := fun {sts} h => by
    refine wpAny_mono (h A g env s₁ E hL hE t₁) (fun f s'' z => ?_) fun _ _ e => e
    obtain ⟨rfl, P', N, h1, h2, h3, h4, h5⟩ := z
    refine wpAny_execs_nil ⟨rfl, P', N, h1, fun b o p e => ?_, h3, h4, (Chx.keeps k).trans h5⟩
    obtain ⟨o', e'⟩ := (keeps_keep k b o e).alive
    exact h2 b o' p e'
  cases c with
  | true => simp only [if_true]; exact fin (hb rfl)
  | false => simp only [Bool.false_eq_true, if_false]; exact fin (ho rfl)

/-- a for whose body may make lists -/
theorem Ret.forGrow {target iter : Expr} {body sts : List Stmt} {pos : Pos} {xs : List α} {Δ : α → List Bnd} {Inv : Nat → List Mu → Prop} {y : β} (hs : Seen Γ M Θ) (hit : Src prog w D n sc Θ P iter r xs)
    (h0 : ∀ b ∈ Γ₀, b ∈ Γ) (hΔ : Tgt prog w D sc Γ₀ target r Δ) (hI : Inv 0 M)
    (hbody : ∀ (i : Nat) x P' M', xs[i]? = some x → Inv i M' → Grow prog w D n sc P' (Δ x ++ Γ₀) M' body Γ₀ (Inv (i + 1)))
    (hk : ∀ P' M', (∀ b, P' b → P b) → Inv xs.length M' → Ret prog w D n sc P' Γ₀ M' sts r' y)
    (hf : ∀ env x, foldedSetIterable iter env x = pure x := by intro _ _; rfl) :
    Ret prog w D n sc P Γ M (.For target iter body [] pos :: sts) r' y := by
  intro A g env s E hL hE t
  refine wpAny_execs_cons (wpAny_For (wpAny_mono (hit A env s E hL hE t.world t.free (t.seen hs)) (fun v s₁ q => ?_) fun _ _ e => e) (hf env))
  obtain ⟨k₁, hq⟩ := q
  refine hq g A _ _ fun I s₂ k₂ hI' it => ?_
  have t₁ := t.keeps k₁
  have t₂ := t₁.keeps k₂
  have hnew : s₁.heap.get? I = none := hI' ▸ get_size _
  have hgI : g.get? I = none := by
    cases q : g.get? I with
    | none => rfl
    | some o => obtain ⟨o2, this⟩ := (t₁.keep I o q).alive; rw [hnew] at this; cases this
  have hPI : P I := hI' ▸ t₁.free.new
  refine codeAny_forLoop_any (fun k s' => ∃ i P' M', i ≤ xs.length ∧ k = xs.length - i ∧ (∀ b, P' b → P b) ∧ P' I ∧ Inv i M' ∧ St A D g sc env P' Γ₀ M' s' ∧ ItAt r g P' s'.heap I (xs.drop i) ∧ Sh s s') ?_ xs.length
    ⟨0, P, M, Nat.zero_le _, rfl, fun _ => id, hPI, hI, t₂.sub h0, it, (Sh.of k₁).trans (Sh.of k₂)⟩
  rintro k s₃ ⟨i, P', M', hi, rfl, hP', hPI', hIv, t₃, it₃, sh₃⟩
  refine ItAt.next (r := r) (g := g) (P := P') hL.1 it₃ (fun hnil h' he => ?_) fun x ys hys v h' tk c hv it₄ => ?_
  · have : i = xs.length := by
      have := List.drop_eq_nil_iff.mp hnil
      omega
    subst this
    refine wpAny_execs_nil ?_
    have t₄ := t₃.iterStep it₃ hgI hPI' (s' := { s₃ with heap := h' }) ⟨⟨h', s₃.toks, rfl⟩, fun b o hb e => .of (he b o hb e)⟩
    exact wpAny_mono (hk P' M' hP' hIv A g env _ E hL hE t₄) (fun f s'' z => Ret.narrow (M := M) (sts := sts) hP' (sh₃.trans ⟨h', s₃.toks, rfl⟩) z) fun _ _ e => e
  · have hlt : i < xs.length := by
      rcases Nat.lt_or_ge i xs.length with h | h
      · exact h
      · rw [List.drop_eq_nil_of_le h] at hys; cases hys
    have hx : xs[i]? = some x := by
      have := congrArg (·[0]?) hys
      simpa [List.getElem?_drop] using this
    have hdrop : xs.drop (i + 1) = ys := by
      rw [List.drop_eq_getElem_cons hlt] at hys
      injection hys
    have t₄ := t₃.iterStep it₃ hgI hPI' c
    have hI₄ := t₄.itNotMine it₄
    have hXI : ∀ b, (P' b ∨ ∃ o, g.get? b = some o) → ¬ Mns sc env M' b := fun b h => t₄.notMine h
    refine letgo_ok it₄ (wpAny_mono (hΔ g env P' M' A n x v _ _ hL hE t₄ hv) (fun _ s₅ q => ?_) fun _ _ e => e)
    obtain ⟨t₅, c₅⟩ := q
    have c₅' : Chx (Mns sc env M') _ _ := chx_own c₅
    have it₅ := it₄.ch c₅' hI₄ hXI
    refine wpAny_mono (hbody i x P' M' hx hIv A g env s₅ _ hL hE t₅) (fun f s₆ q => ?_) fun _ _ e => e
    obtain ⟨rfl, P'', M'', hP'', ha, hIv', t₆, c₆⟩ := q
    obtain ⟨oI, _, hoI, _⟩ := it₅.obj
    have it₆ := (it₅.narrow t₅.keep ha).ch c₆ hI₄ fun b h => hXI b (h.imp (hP'' b) id)
    refine ⟨xs.length - (i + 1), by omega, i + 1, P'', M'', hlt, rfl, fun b p => hP' b (hP'' b p), ha I oI hPI' hoI, hIv', t₆, by rw [hdrop]; exact it₆, ?_⟩
    exact sh₃.trans (Sh.trans c.1 (Sh.trans c₅'.1 c₆.1))

/-- a new list, appended to a list of the block's own lists -/
theorem Grow.appendNew {o e : Expr} {apos pos spos : Pos} {a : Addr} {addrs : List Addr} {ys : List β} {J : List Mu → Prop} (hM : M = M₁ ++ ⟨a, rAddr, addrs⟩ :: M₂) (hs : Seen Γ M Θ) (ho : ∀ P', Ev prog w D n sc Θ P' o rAddr a) (he : ∀ P', EvNew prog w D n sc Θ P' e r' ys) (sr' : Solid r') (hsz : addrs.length ≤ sizeLine) (hΓ : ∀ b ∈ Γ', b ∈ Γ)
    (k : ∀ b, J (⟨b, r', ys⟩ :: (M₁ ++ ⟨a, rAddr, addrs ++ [b]⟩ :: M₂)))
    (hbase : ∀ env, attributeBase o "append" env (eval o env) = eval o env := by intro _; rfl) (hline : (apos.endLine == pos.line) = true := by rfl)
    (ht : ∀ env, backTo pos (starEach [e] env) = [(false, eval e env)] := by intro _; rfl)
    (hw : ∀ env, swapsWith (.Call (.Attribute o "append" apos) [e] [] pos) none spos.line env = pure false := by intro _; rfl) :
    Grow prog w D n sc P Γ M [.Expr (.Call (.Attribute o "append" apos) [e] [] pos) spos] Γ' J := by
  intro A g env s E hL hE t
  refine wpAny_execs_cons (wpAny_Expr_any (wpAny_Call_append (hbase env) (by rw [ht env]; rfl) hline (ht env) (wpAny_mono (ho P A env s E hL hE t.world t.free (t.seen hs)) (fun v s₁ h₁ => ?_) fun _ _ e => e)) (not_interactive hE) (hw env))
  obtain ⟨k₁, hv⟩ := h₁
  have hv' : v = .ref a := hv
  subst hv'
  have t₁ := t.keeps k₁
  obtain ⟨_, _, _, items, ⟨nn, hl⟩, hp⟩ := t₁.mus ⟨a, rAddr, addrs⟩ (by rw [hM]; simp)
  refine ⟨a, items, rfl, ⟨_, nn, hl, rfl, rfl, rfl⟩, wpAny_mono (he P A env s₁ E hL hE t₁.world t₁.free (t₁.seen hs)) (fun u s₂ h₂ => ?_) fun _ _ e => e⟩
  obtain ⟨b, rfl, k₂, hn, pb, its, hlb, hpb⟩ := h₂
  have t₂ := t₁.make k₂ sr' hn hlb hpb
  have hmem : (⟨a, rAddr, addrs⟩ : Mu) ∈ M := by rw [hM]; simp
  obtain ⟨_, _, _, items, hl, hp⟩ := t₂.mus ⟨a, rAddr, addrs⟩ (.tail _ hmem)
  have nl : items.size = addrs.length := by rw [← Array.length_toList]; exact hp.length
  refine wpAny_list_append_plain hl (fun h' hl' hss => ?_) (by rw [nl]; exact hsz)
  refine wpAny_execs_nil ⟨rfl, fun c => P c ∧ c ≠ b, ⟨b, r', ys⟩ :: (M₁ ++ ⟨a, rAddr, addrs ++ [b]⟩ :: M₂), fun c p => p.1, fun c o p e => ⟨p, fun q => ?_⟩, k b, ?_, ?_⟩
  · obtain ⟨o', e'⟩ := (keeps_keep k₁ c o e).alive
    rw [q, hn] at e'; cases e'
  · exact (t₂.mutate (tk := s₂.toks) (M₁ := ⟨b, r', ys⟩ :: M₁) (m := ⟨a, rAddr, addrs⟩) (by rw [hM]; rfl) hss hl' (by simpa using paired_append hp (.cons (rfl : rAddr.is _ _ (.ref b) b) .nil))).sub hΓ
  · exact ((Chx.keeps k₁).trans (Chx.keeps k₂)).trans ⟨⟨h', s₂.toks, rfl⟩, fun c o x e => .of ((hss.2 c fun q => x (.inr ⟨⟨a, rAddr, addrs⟩, hmem, q.symm⟩)).trans e)⟩
/-- the block's own list of own lists is given back -/
theorem Ret.ownOf {a : Addr} {addrs : List Addr} {yss : List (List β)} {e : Expr} {pos : Pos} {sts : List Stmt} (hm : (⟨a, rAddr, addrs⟩ : Mu) ∈ M) (hin : Paired (fun b ys => (⟨b, r', ys⟩ : Mu) ∈ M) addrs yss) (he : Ev prog w D n sc Γ P e rAddr a) : Ret prog w D n sc P Γ M (.Return (some e) pos :: sts) (rList (rList r')) yss := by
  intro A g env s E hL hE t
  refine ret_ev hL hE t Seen.self he fun v s' k t' hv => ⟨v, rfl, t'.keep, Sh.of k, ?_⟩
  obtain ⟨_, hg, sr, items, hl, hp⟩ := t'.mus _ hm
  have hv' : v = .ref a := hv
  refine ⟨a, items, hv', .inr hg, hl.isList, ?_⟩
  have go : ∀ {vs : List Value} {addrs : List Addr} {yss : List (List β)}, Paired (rAddr.is P s'.heap) vs addrs → Paired (fun b ys => (⟨b, r', ys⟩ : Mu) ∈ M) addrs yss → Paired ((rList r').is (Out P g) s'.heap) vs yss := by
    intro vs addrs yss h1
    induction h1 generalizing yss with
    | nil => intro h2; cases h2; exact .nil
    | @cons v b _ _ hvb _ ih =>
      intro h2
      cases h2 with
      | cons hb h2 =>
        obtain ⟨_, hg', _, its, hl', hp'⟩ := t'.mus _ hb
        have hvb' : v = .ref b := hvb
        exact .cons ⟨b, its, hvb', .inr hg', hl'.isList, paired_imp (fun _ _ q => r'.weak (fun b o p _ => .inl p) q) hp'⟩ (ih h2)
  exact go hp hin
end
end Mine
end

section
open PySem PySem.W
set_option Elab.async false
set_option linter.unusedVariables false
set_option linter.unusedSectionVars false
set_option maxRecDepth 10000
open PyProof.Rows
namespace Mine
variable [Lim]

-- the piles
noncomputable def sW (weak : Bool) (tops : List Int) (x : Int) : Nat := if weak then sR tops x else sL tops x
noncomputable def pstep (row : List Int) (weak : Bool) (q : List Int × List (List Int)) (place : Int) : List Int × List (List Int) :=
  let x := row.getD place.toNat 1
  let k := sW weak q.1 x
  if k = q.1.length then (q.1 ++ [x], q.2 ++ [[place]]) else (q.1.set k x, q.2.set k (q.2.getD k [] ++ [place]))
noncomputable def pst (row : List Int) (weak : Bool) : Nat → List Int × List (List Int)
  | 0 => ([], [])
  | i + 1 => pstep row weak (pst row weak i) i
noncomputable def piles (row : List Int) (weak : Bool) (m : Nat) : List (List Int) := (pst row weak m).2

theorem bl_le (val : Nat → Int) (x : Int) : ∀ f lo hi, lo ≤ hi → bl val x f lo hi ≤ hi
  | 0, lo, hi, h => h
  | f + 1, lo, hi, h => by
    rw [bl]
    split
    · split
      · exact bl_le val x f _ _ (by omega)
      · exact Nat.le_trans (bl_le val x f _ _ (by omega)) (by omega)
    · exact h
theorem br_le (val : Nat → Int) (x : Int) : ∀ f lo hi, lo ≤ hi → br val x f lo hi ≤ hi
  | 0, lo, hi, h => h
  | f + 1, lo, hi, h => by
    rw [br]
    split
    · split
      · exact Nat.le_trans (br_le val x f _ _ (by omega)) (by omega)
      · exact br_le val x f _ _ (by omega)
    · exact h
theorem sW_le (weak : Bool) (tops : List Int) (x : Int) : sW weak tops x ≤ tops.length := by
  unfold sW sR sL blw brw
  split
  · exact br_le _ _ _ _ _ (by omega)
  · exact bl_le _ _ _ _ _ (by omega)
theorem pst_len (row : List Int) (weak : Bool) : ∀ i, (pst row weak i).1.length = (pst row weak i).2.length ∧ (pst row weak i).1.length ≤ i
  | 0 => ⟨rfl, Nat.le_refl _⟩
  | i + 1 => by
    obtain ⟨h1, h2⟩ := pst_len row weak i
    show (pstep row weak (pst row weak i) i).1.length = (pstep row weak (pst row weak i) i).2.length ∧ (pstep row weak (pst row weak i) i).1.length ≤ i + 1
    unfold pstep
    dsimp only
    split
    · simp only [List.length_append, List.length_cons, List.length_nil]; omega
    · simp only [List.length_set]; omega
theorem pst_all (row : List Int) (weak : Bool) : ∀ i, ∀ ys ∈ (pst row weak i).2, ys.length ≤ i
  | 0, ys, h => by cases h
  | i + 1, ys, h => by
    have ih := pst_all row weak i
    rw [pst] at h
    unfold pstep at h
    dsimp only at h
    split at h
    · rcases List.mem_append.mp h with h | h
      · exact Nat.le_succ_of_le (ih ys h)
      · rw [List.mem_singleton.mp h]; simp
    · rcases List.mem_or_eq_of_mem_set h with h | h
      · exact Nat.le_succ_of_le (ih ys h)
      · rw [h, List.length_append]
        have : ((pst row weak i).2.getD (sW weak (pst row weak i).1 (row.getD ((i : Int)).toNat 1)) []).length ≤ i := by
          rw [List.getD_eq_getElem?_getD]
          cases e : (pst row weak i).2[sW weak (pst row weak i).1 (row.getD ((i : Int)).toNat 1)]? with
          | none => simp
          | some z => exact ih z (List.mem_of_getElem? e)
        simp only [List.length_cons, List.length_nil]; omega

noncomputable def inner : List Addr → List (List Int) → List Mu
  | a :: as, ys :: yss => ⟨a, rInt, ys⟩ :: inner as yss
  | _, _ => []
theorem inner_snoc (b : Addr) (zs : List Int) : ∀ {as : List Addr} {yss : List (List Int)}, as.length = yss.length → inner (as ++ [b]) (yss ++ [zs]) = inner as yss ++ [⟨b, rInt, zs⟩]
  | [], [], _ => rfl
  | a :: as, ys :: yss, h => by rw [List.cons_append, List.cons_append, inner, inner, inner_snoc b zs (by simpa using h)]; rfl
theorem inner_at : ∀ {as : List Addr} {yss : List (List Int)} {k : Nat}, as.length = yss.length → k < as.length → ∃ M₁ M₂, ∀ zs, inner as (yss.set k zs) = M₁ ++ ⟨as.getD k 0, rInt, zs⟩ :: M₂
  | a :: as, ys :: yss, 0, _, _ => ⟨[], inner as yss, fun zs => rfl⟩
  | a :: as, ys :: yss, k + 1, h, hk => by
    obtain ⟨M₁, M₂, e⟩ := inner_at (as := as) (yss := yss) (k := k) (by simpa using h) (by simpa using hk)
    exact ⟨⟨a, rInt, ys⟩ :: M₁, M₂, fun zs => by rw [List.set_cons_succ, inner, e]; rfl⟩
theorem inner_paired {M : List Mu} : ∀ {as : List Addr} {yss : List (List Int)}, as.length = yss.length → (∀ m ∈ inner as yss, m ∈ M) → Paired (fun b ys => (⟨b, rInt, ys⟩ : Mu) ∈ M) as yss
  | [], [], _, _ => .nil
  | a :: as, ys :: yss, h, hm => .cons (hm _ (.head _)) (inner_paired (by simpa using h) fun m q => hm m (.tail _ q))

noncomputable def fPile : Fn := fnOfStm 11 (bindPos ["row", "search"])
theorem fits_pile : FnFits fPile := ⟨rfl, rfl, rfl, by decide, by decide⟩
section
variable {prog : Program} {w : World} {D : Wd} {sc : Scope} {P : Addr → Prop} {Γ Γ' : List Bnd} {M M' : List Mu} {n : Nat} {aS : Addr}

theorem Grow.perm {sts : List Stmt} {J : List Mu → Prop} (h : M.Perm M') (k : Grow prog w D n sc P Γ M' sts Γ' J) : Grow prog w D n sc P Γ M sts Γ' J := by
  intro A g env s E hL hE t
  refine wpAny_mono (k A g env s E hL hE (t.perm h)) (fun f s' q => ?_) fun _ _ e => e
  obtain ⟨a, P', N, h1, h2, h3, h4, h5⟩ := q
  exact ⟨a, P', N, h1, h2, h3, h4, h5.mono fun b x => x.imp id fun ⟨m, hm, e⟩ => ⟨m, h.mem_iff.mpr hm, e⟩⟩

/-- the search that is meant -/
noncomputable def Search (D : Wd) (weak : Bool) (a : Addr) : Prop := ∃ nm, D.fn nm = some (a, if weak then fBR else fBL)
theorem search_call {weak : Bool} {tops : List Int} {x : Int} (h : Search D weak aS) (hs : tops.length < 1000) : CallsTo prog w D (n + 2) P (.ref aS) [⟨rRoot rInt, tops⟩, ⟨rInt, x⟩] [] [] rInt ((sW weak tops x : Nat) : Int) := by
  obtain ⟨nm, h⟩ := h
  cases weak with
  | true => exact right_call2 h (by omega) fun j hj => getD_some hj
  | false => exact left_call2 h (by omega) fun j hj => getD_some hj

theorem EvNew.one {α : Type} {r : Rel α} {e : Expr} {x : α} {pos : Pos} (he : Ev prog w D n sc Γ P e r x) (ht : ∀ env, backTo pos (starEach [e] env) = [(false, eval e env)] := by intro _; rfl) : EvNew prog w D n sc Γ P (.List [e] pos) r [x] := by
  intro A env s E hL hE hW hF hV
  refine wpAny_List ?_
  rw [ht]
  refine wpAny_mono (spliced_ev (bs := [⟨r, x⟩]) (es := [e]) hL hE ⟨he, trivial⟩ hW hF hV) (fun vs s₁ h₁ => ?_) fun _ _ e => e
  obtain ⟨k, a⟩ := h₁
  cases a with
  | @cons v _ _ _ h1 a =>
    cases a
    exact ⟨by rw [sizeLine_eq]; show 1 ≤ _; omega, _, rfl, (new_done (vs := [v]) (hF.keep (keeps_keep k)) rfl (.cons h1 .nil)).after k⟩
noncomputable abbrev pileM (at_ ap : Addr) (addrs : List Addr) (tops : List Int) (ps : List (List Int)) : List Mu := ⟨ap, rAddr, addrs⟩ :: ⟨at_, rInt, tops⟩ :: inner addrs ps
theorem pile_block {row : List Int} {weak : Bool} (hS : Search D weak aS) (h2 : row.length < 100) (P : Addr → Prop) :
    Ret prog w D (n + 2) fPile.scope P [⟨"row", rRoot rInt, row⟩, ⟨"search", rVal, .ref aS⟩] [] fPile.body (rList (rList rInt)) (piles row weak row.length) := by
  refine Ret.tupleNew2 (r' := rInt) (r₂ := rAddr) (Γ' := fun a b => [⟨"tops", rAddr, a⟩, ⟨"piles", rAddr, b⟩, ⟨"row", rRoot rInt, row⟩, ⟨"search", rVal, .ref aS⟩]) Seen.self EvNew.nil (fun _ => EvNew.nil) solid_int solid_addr (by decide) (by decide) (by decide) (by decide) (fun a b => grow2) fun at_ ap P' hP' => ?_
  refine Ret.forGrow (xs := rng 0 ((row.length : Int)).toNat) (Γ₀ := [⟨"tops", rAddr, at_⟩, ⟨"piles", rAddr, ap⟩, ⟨"row", rRoot rInt, row⟩, ⟨"search", rVal, .ref aS⟩]) (Δ := fun x => [⟨"place", rInt, x⟩])
    (Inv := fun i M => ∃ addrs, addrs.length = (pst row weak i).2.length ∧ M.Perm (pileM at_ ap addrs (pst row weak i).1 (pst row weak i).2)) Seen.self (Src.range (Ev.range1 (Ev.len Ev.var (by omega)) (by omega) (by omega))) (fun b hb => hb) (Tgt.name (by decide) fresh_name) ⟨[], rfl, .refl _⟩ (fun i x P'' M' hx hI => ?_) fun P'' M' hP'' hI => ?_
  · obtain ⟨addrs, hl, hp⟩ := hI
    have hxi := rng_get _ _ _ _ hx
    rw [Int.zero_add] at hxi
    subst hxi
    have hi : i < row.length := by
      have := (rng_mem hx).2; omega
    refine Grow.perm hp ?_
    simp only [List.singleton_append]
    obtain ⟨hlen, hle⟩ := pst_len row weak i
    have hsle := sW_le weak (pst row weak i).1 (row.getD ((i : Int)).toNat 1)
    obtain ⟨nm, hfn⟩ := hS
    generalize htops : (pst row weak i).1 = tops at *
    generalize hps : (pst row weak i).2 = ps at *
    generalize hxe : row.getD ((i : Int)).toNat 1 = x at *
    have hst : pst row weak (i + 1) = if sW weak tops x = tops.length then (tops ++ [x], ps ++ [[(i : Int)]]) else (tops.set (sW weak tops x) x, ps.set (sW weak tops x) (ps.getD (sW weak tops x) [] ++ [(i : Int)])) := by
      show pstep row weak (pst row weak i) i = _
      unfold pstep
      dsimp only
      rw [htops, hps, hxe]
    generalize hk : sW weak tops x = k at *
    have hrow : ∀ {Γ : List Bnd} {Pin : Addr → Prop} {p p' q : Pos}, (⟨"row", rRoot rInt, row⟩ : Bnd) ∈ Γ → (⟨"place", rInt, (i : Int)⟩ : Bnd) ∈ Γ → Ev prog w D (n + 2) fPile.scope Γ Pin (.Subscript (.Name "row" p) (.Name "place" p') q) rInt x :=
      fun hr hp => Ev.idx (Ev.var hr) (Ev.var hp) (by omega) (by omega) (by rw [← hxe]; exact getD_at (by omega))
    have own := seen_own (Γ := [⟨"place", rInt, (i : Int)⟩, ⟨"tops", rAddr, at_⟩, ⟨"piles", rAddr, ap⟩, ⟨"row", rRoot rInt, row⟩, ⟨"search", rVal, .ref aS⟩]) (M := pileM at_ ap addrs tops ps) (nm := "tops") (m := ⟨at_, rInt, tops⟩) (.tail _ (.head _)) (.tail _ (.head _))
    refine Grow.step (Γ' := [⟨"k", rInt, (k : Int)⟩, ⟨"place", rInt, (i : Int)⟩, ⟨"tops", rAddr, at_⟩, ⟨"piles", rAddr, ap⟩, ⟨"row", rRoot rInt, row⟩, ⟨"search", rVal, .ref aS⟩]) (M' := pileM at_ ap addrs tops ps) rfl
      (Ex.assign (r := rInt) own (Ev.call (names := []) (ks := []) (kes := []) (bs := [⟨rRoot rInt, tops⟩, ⟨rInt, x⟩]) Ev.var hfn ⟨Ev.var, hrow (.tail _ (.tail _ (.tail _ (.tail _ (.head _))))) (.tail _ (.head _)), trivial⟩ trivial (hk ▸ search_call ⟨nm, hfn⟩ (by omega)) (by simp)) solid_int (by decide) grow) ?_
    have own := seen_own (Γ := [⟨"k", rInt, (k : Int)⟩, ⟨"place", rInt, (i : Int)⟩, ⟨"tops", rAddr, at_⟩, ⟨"piles", rAddr, ap⟩, ⟨"row", rRoot rInt, row⟩, ⟨"search", rVal, .ref aS⟩]) (M := pileM at_ ap addrs tops ps) (nm := "tops") (m := ⟨at_, rInt, tops⟩) (.tail _ (.head _)) (.tail _ (.tail _ (.head _)))
    refine Grow.ifB (b := ((k : Int) == (tops.length : Int))) own (Et.cmp Ev.var (Ev.len Ev.var (show tops.length < 2 ^ 63 by omega)) (op_eq _ _)) (fun hb => ?_) (fun hb => ?_)
    · have hb' : k = tops.length := by
        have := eq_of_beq hb; omega
      rw [if_pos hb'] at hst
      refine Grow.step (M' := ⟨ap, rAddr, addrs⟩ :: ⟨at_, rInt, tops ++ [x]⟩ :: inner addrs ps) rfl (Ex.append (M₁ := [⟨ap, rAddr, addrs⟩]) (M₂ := inner addrs ps) (m := ⟨at_, rInt, tops⟩) (y := x) rfl Seen.self Ev.var (hrow (.tail _ (.tail _ (.tail _ (.tail _ (.head _))))) (.tail _ (.head _))) (show tops.length ≤ sizeLine by rw [sizeLine_eq]; omega) (fun b hb => hb)) ?_
      refine Grow.appendNew (M₁ := []) (M₂ := ⟨at_, rInt, tops ++ [x]⟩ :: inner addrs ps) (a := ap) (addrs := addrs) (ys := [(i : Int)]) (r' := rInt) rfl Seen.self (fun P' => Ev.var) (fun P' => EvNew.one Ev.var) solid_int (by rw [sizeLine_eq]; omega) (fun b hb => .tail _ (.tail _ hb)) (fun b => ⟨addrs ++ [b], ?_, ?_⟩)
      · rw [hst]; simp [hl]
      · rw [hst]
        show List.Perm _ (_ :: _ :: inner (addrs ++ [b]) (ps ++ [[(i : Int)]]))
        rw [inner_snoc _ _ hl]
        exact (List.perm_append_singleton _ (⟨ap, rAddr, addrs ++ [b]⟩ :: ⟨at_, rInt, tops ++ [x]⟩ :: inner addrs ps : List Mu)).symm
    · have hb' : ¬ k = tops.length := fun e => by rw [e] at hb; simp at hb
      rw [if_neg hb'] at hst
      obtain ⟨M₁, M₂, e⟩ := inner_at (as := addrs) (yss := ps) (k := k) hl (by omega)
      have e0 : inner addrs ps = M₁ ++ ⟨addrs.getD k 0, rInt, ps.getD k []⟩ :: M₂ := by
        rw [← e]
        congr 1
        refine (List.ext_getElem? fun j => ?_)
        by_cases c : k = j
        · subst c
          rw [List.getElem?_set_self (by omega), getD_at (d := []) (by omega)]
        · rw [List.getElem?_set_ne c]
      refine Grow.of (M' := ⟨ap, rAddr, addrs⟩ :: ⟨at_, rInt, tops.set k x⟩ :: inner addrs (ps.set k (ps.getD k [] ++ [(i : Int)]))) ?_ ⟨addrs, by rw [hst]; simp [hl], by rw [hst]⟩
      refine ExS.cons (Γ' := [⟨"k", rInt, (k : Int)⟩, ⟨"place", rInt, (i : Int)⟩, ⟨"tops", rAddr, at_⟩, ⟨"piles", rAddr, ap⟩, ⟨"row", rRoot rInt, row⟩, ⟨"search", rVal, .ref aS⟩]) (M' := ⟨ap, rAddr, addrs⟩ :: ⟨at_, rInt, tops.set k x⟩ :: inner addrs ps) rfl
        (Ex.setItem (M₁ := [⟨ap, rAddr, addrs⟩]) (M₂ := inner addrs ps) (m := ⟨at_, rInt, tops⟩) (y := x) (k := (k : Int)) rfl Seen.self (hrow (.tail _ (.tail _ (.tail _ (.tail _ (.head _))))) (.tail _ (.head _))) Ev.var Ev.var (by omega) (by omega) (show (k : Int) < tops.length by omega) (fun b hb => hb)) ?_
      have own := seen_own (Γ := [⟨"k", rInt, (k : Int)⟩, ⟨"place", rInt, (i : Int)⟩, ⟨"tops", rAddr, at_⟩, ⟨"piles", rAddr, ap⟩, ⟨"row", rRoot rInt, row⟩, ⟨"search", rVal, .ref aS⟩]) (M := ⟨ap, rAddr, addrs⟩ :: ⟨at_, rInt, tops.set k x⟩ :: inner addrs ps) (nm := "piles") (m := ⟨ap, rAddr, addrs⟩) (.head _) (.tail _ (.tail _ (.tail _ (.head _))))
      rw [e0] at own ⊢
      rw [e]
      refine ExS.cons (Γ' := [⟨"tops", rAddr, at_⟩, ⟨"piles", rAddr, ap⟩, ⟨"row", rRoot rInt, row⟩, ⟨"search", rVal, .ref aS⟩]) (M' := (⟨ap, rAddr, addrs⟩ :: ⟨at_, rInt, tops.set k x⟩ :: M₁) ++ ⟨addrs.getD k 0, rInt, ps.getD k [] ++ [(i : Int)]⟩ :: M₂) (by simp) ?_ (ExS.nil fun b hb => hb)
      refine Ex.append (M₁ := ⟨ap, rAddr, addrs⟩ :: ⟨at_, rInt, tops.set k x⟩ :: M₁) (M₂ := M₂) (m := ⟨addrs.getD k 0, rInt, ps.getD k []⟩) (y := (i : Int)) rfl own (Ev.idx (r := rAddr) (y := addrs.getD k 0) (k := (k : Int)) Ev.var Ev.var (by omega) (by omega) (by rw [Int.toNat_natCast]; exact getD_at (show k < addrs.length by omega))) Ev.var ?_ (fun b hb => .tail _ (.tail _ hb))
      have := pst_all row weak i (ps.getD k []) (by rw [hps]; exact List.mem_of_getElem? (getD_at (d := []) (show k < ps.length by omega)))
      rw [sizeLine_eq]
      show (ps.getD k []).length ≤ _
      omega
  · obtain ⟨addrs, hl, hp⟩ := hI
    rw [rng_length, Int.toNat_natCast] at hl hp
    exact Ret.ownOf (a := ap) (addrs := addrs) (hp.mem_iff.mpr (.head _)) (inner_paired hl fun m hm => hp.mem_iff.mpr (.tail _ (.tail _ hm))) Ev.var
theorem pile_call {nm : Str} {a : Addr} {row : List Int} {weak : Bool} (hx : D.fn nm = some (a, fPile)) (hS : Search D weak aS) (h2 : row.length < 100) :
    CallsTo prog w D (n + 3) P (.ref a) [⟨rRoot rInt, row⟩, ⟨rVal, .ref aS⟩] [] [] (rList (rList rInt)) (piles row weak row.length) :=
  ret_call hx fits_pile (pos_args rfl rfl (by decide) (by decide)) fun P => pile_block hS h2 P
end
end Mine
end

section
open PySem PySem.W
set_option Elab.async false
set_option linter.unusedVariables false
set_option linter.unusedSectionVars false
set_option maxRecDepth 10000
set_option maxHeartbeats 4000000
open PyProof.Rows
namespace Mine
variable [Lim]

theorem foldl_take {α β : Type} {f : β → α → β} {a : β} {xs : List α} {i : Nat} {x : α} (h : xs[i]? = some x) : (xs.take (i + 1)).foldl f a = f ((xs.take i).foldl f a) x := by
  rw [List.take_add_one, h, List.foldl_append]; rfl
noncomputable def one1 (u : List Int) (p : Int) : List Int := u.set p.toNat 1
noncomputable def up1 (place : Int) (u : List Int) (other : Int) : List Int := u.set other.toNat (u.getD other.toNat 0 + u.getD place.toNat 0)
noncomputable def upA (nexts : List (List Int)) (u : List Int) (place : Int) : List Int := (atE nexts place).foldl (up1 place) u
noncomputable def dn1 (place : Int) (u : List Int) (other : Int) : List Int := u.set place.toNat (u.getD place.toNat 0 + u.getD other.toNat 0)
noncomputable def dnA (nexts : List (List Int)) (u : List Int) (place : Int) : List Int := (atE nexts place).foldl (dn1 place) u
noncomputable def ups (ps nexts : List (List Int)) : List Int := (ps.flatMap fun p => p).foldl (upA nexts) ((atE ps 0).foldl one1 (List.replicate nexts.length 0))
noncomputable def dns (ps nexts : List (List Int)) : List Int := ((pick ps none none (some (-1))).flatMap fun p => p).foldl (dnA nexts) ((atE ps ((ps.length : Int) - 1)).foldl one1 (List.replicate nexts.length 0))
noncomputable def sums (ps nexts : List (List Int)) : List (List Int) :=
  ps.map fun pile => (rng 0 ((pile.length : Int)).toNat).map fun k => ((pick pile none (some (k + 1)) none).map fun place => (ups ps nexts).getD place.toNat 0 * (dns ps nexts).getD place.toNat 0).sum
noncomputable def inR (N : Nat) (x : Int) : Bool := decide (0 ≤ x) && decide (x < N)
noncomputable def okSums (ps nexts : List (List Int)) : Bool :=
  decide (0 < ps.length) && decide (ps.length < 100) && decide (nexts.length < 100) && ps.all (fun p => decide (p.length < 100) && p.all (inR nexts.length)) && nexts.all (fun p => decide (p.length < 100) && p.all (inR nexts.length)) &&
    (ups ps nexts).all (fun x => decide (-1000000 < x) && decide (x < 1000000)) &&
    ps.all (fun p => (rng 0 p.length).all fun k => decide ((pick p none (some (k + 1)) none).length < 100)) && decide ((ps.flatMap fun p => p).length < 1000) && decide (((pick ps none none (some (-1))).flatMap fun p => p).length < 1000)
theorem foldl_length {α : Type} {f : List Int → α → List Int} (h : ∀ u x, (f u x).length = u.length) : ∀ (xs : List α) (u : List Int), (xs.foldl f u).length = u.length
  | [], u => rfl
  | x :: xs, u => by rw [List.foldl_cons, foldl_length h xs, h]
theorem one1_len (u : List Int) (p : Int) : (one1 u p).length = u.length := List.length_set
theorem up1_len (a : Int) (u : List Int) (p : Int) : (up1 a u p).length = u.length := List.length_set
theorem dn1_len (a : Int) (u : List Int) (p : Int) : (dn1 a u p).length = u.length := List.length_set
theorem upA_len (nx : List (List Int)) (u : List Int) (p : Int) : (upA nx u p).length = u.length := foldl_length (up1_len p) _ _
theorem dnA_len (nx : List (List Int)) (u : List Int) (p : Int) : (dnA nx u p).length = u.length := foldl_length (dn1_len p) _ _
theorem rep0 (k : Nat) : (List.replicate k ([0] : List Int)).flatten = List.replicate k 0 := by
  induction k with
  | zero => rfl
  | succ k ih => rw [List.replicate_succ, List.flatten_cons, ih, List.replicate_succ]; rfl

noncomputable def fSum : Fn := fnOfStm 14 (bindPos ["piles", "nexts"])
theorem fits_sum : FnFits fSum := ⟨rfl, rfl, rfl, by decide, by decide⟩
theorem pick_mem {α : Type} {xs : List α} {lo hi st : Option Int} {x : α} (h : x ∈ pick xs lo hi st) : x ∈ xs := by
  unfold pick at h
  obtain ⟨i, _, e⟩ := List.mem_filterMap.mp h
  exact List.mem_of_getElem? e
section
variable {prog : Program} {w : World} {D : Wd} {sc : Scope} {P : Addr → Prop} {Γ Γ' : List Bnd} {M M' : List Mu} {n : Nat}

theorem inR_iff {N : Nat} {x : Int} : inR N x = true ↔ 0 ≤ x ∧ x < N := by unfold inR; simp

theorem Ex.castM {st : Stmt} {M'' : List Mu} (h : Ex prog w D n sc P Γ M st Γ' M') (e : M' = M'') : Ex prog w D n sc P Γ M st Γ' M'' := e ▸ h
theorem flat_id (xs : List (List Int)) : (xs.flatMap fun x => if (fun _ : List Int => true) x = true then (x.filter ((fun _ _ => true : List Int → Int → Bool) x)).map ((fun _ y => y : List Int → Int → Int) x) else []) = xs.flatMap fun p => p := by
  congr 1
  funext x
  simp
theorem seen_cons {Θ : List Bnd} {nm : Str} {m : Mu} (h : Seen Γ M Θ) (hm : m ∈ M) (hΓ : (⟨nm, rAddr, m.a⟩ : Bnd) ∈ Γ) : Seen Γ M (⟨nm, rRoot m.r, m.xs⟩ :: Θ) := by
  intro b hb
  rcases List.mem_cons.mp hb with rfl | hb
  · exact .inr ⟨nm, m, hm, hΓ, rfl⟩
  · exact h b hb
theorem sum_block {ps nexts : List (List Int)} (ok : okSums ps nexts = true) (P : Addr → Prop) :
    Ret prog w D n fSum.scope P [⟨"piles", rList (rList rInt), ps⟩, ⟨"nexts", rList (rList rInt), nexts⟩] [] fSum.body (rList (rList rInt)) (sums ps nexts) := by
  unfold okSums at ok
  simp only [Bool.and_eq_true, decide_eq_true_eq, List.all_eq_true, inR_iff] at ok
  obtain ⟨⟨⟨⟨⟨⟨⟨⟨h1, h2⟩, h3⟩, h4⟩, h5⟩, h6⟩, h7⟩, h8⟩, h9⟩ := ok
  have hp0 : ps[(0 : Int).toNat]? = some (atE ps 0) := getD_at (by omega)
  have hpl : ps[((-1 : Int) + (ps.length : Int)).toNat]? = some (atE ps ((ps.length : Int) - 1)) := by
    rw [show (-1 : Int) + (ps.length : Int) = (ps.length : Int) - 1 by omega]
    exact getD_at (by omega)
  have hin : ∀ {p : List Int}, p ∈ ps → ∀ x ∈ p, 0 ≤ x ∧ x < nexts.length := fun hp x hx => (h4 _ hp).2 x hx
  refine Ret.tupleNew2 (r' := rInt) (r₂ := rInt) (ys := List.replicate nexts.length 0) (zs := List.replicate nexts.length 0) (Γ' := fun a b => [⟨"up", rAddr, a⟩, ⟨"down", rAddr, b⟩, ⟨"piles", rList (rList rInt), ps⟩, ⟨"nexts", rList (rList rInt), nexts⟩]) Seen.self
    (EvNew.cast (EvNew.mul (xs := [0]) (k := (nexts.length : Int)) (Ev.root (Ev.list ⟨Ev.int, trivial⟩ (by decide))) (Ev.len (Ev.root Ev.var) (by omega)) (by omega) (by omega) (by simp; omega)) (by rw [Int.toNat_natCast]; exact rep0 _))
    (fun _ => EvNew.cast (EvNew.mul (xs := [0]) (k := (nexts.length : Int)) (Ev.root (Ev.list ⟨Ev.int, trivial⟩ (by decide))) (Ev.len (Ev.root Ev.var) (by omega)) (by omega) (by omega) (by simp; omega)) (by rw [Int.toNat_natCast]; exact rep0 _))
    solid_int solid_int (by decide) (by decide) (by decide) (by decide) (fun a b => grow2) fun a b P' hP' => ?_
  refine Ret.step (Ex.for (r := rInt) (xs := atE ps 0) (Γi := fun _ => [⟨"up", rAddr, a⟩, ⟨"down", rAddr, b⟩, ⟨"piles", rList (rList rInt), ps⟩, ⟨"nexts", rList (rList rInt), nexts⟩]) (Mi := fun i => [⟨b, rInt, List.replicate nexts.length 0⟩, ⟨a, rInt, ((atE ps 0).take i).foldl one1 (List.replicate nexts.length 0)⟩]) (Δ := fun x => [⟨"place", rInt, x⟩]) Seen.self
    (Src.list solid_int (Ev.idx (Ev.root Ev.var) Ev.int (by decide) (by decide) hp0)) (fun b hb => hb) (fun i => Tgt.name (by decide) fresh_name) (fun i => rfl) (fun i x hx => ?_)) ?_
  · obtain ⟨x0, x1⟩ := hin (List.mem_of_getElem? hp0) x (List.mem_of_getElem? hx)
    rw [foldl_take hx]
    simp only [List.singleton_append]
    refine ExS.cons (Γ' := [⟨"up", rAddr, a⟩, ⟨"down", rAddr, b⟩, ⟨"piles", rList (rList rInt), ps⟩, ⟨"nexts", rList (rList rInt), nexts⟩]) (M' := [⟨b, rInt, List.replicate nexts.length 0⟩, ⟨a, rInt, one1 (((atE ps 0).take i).foldl one1 (List.replicate nexts.length 0)) x⟩]) rfl (Ex.setItem (M₁ := [⟨b, rInt, List.replicate nexts.length 0⟩]) (M₂ := []) (m := ⟨a, rInt, ((atE ps 0).take i).foldl one1 (List.replicate nexts.length 0)⟩) (y := (1 : Int)) (k := x) (Γ' := [⟨"up", rAddr, a⟩, ⟨"down", rAddr, b⟩, ⟨"piles", rList (rList rInt), ps⟩, ⟨"nexts", rList (rList rInt), nexts⟩]) rfl Seen.self Ev.int Ev.var Ev.var x0 (by omega) (by rw [foldl_length one1_len, List.length_replicate]; exact x1) (fun b hb => .tail _ hb)) (ExS.nil fun b hb => hb)
  rw [List.take_length]
  generalize hu0 : (atE ps 0).foldl one1 (List.replicate nexts.length 0) = u0
  have lu0 : u0.length = nexts.length := by rw [← hu0, foldl_length one1_len, List.length_replicate]
  refine Ret.step (Ex.for (r := rInt) (xs := atE ps ((ps.length : Int) - 1)) (Γi := fun _ => [⟨"up", rAddr, a⟩, ⟨"down", rAddr, b⟩, ⟨"piles", rList (rList rInt), ps⟩, ⟨"nexts", rList (rList rInt), nexts⟩]) (Mi := fun i => [⟨b, rInt, ((atE ps ((ps.length : Int) - 1)).take i).foldl one1 (List.replicate nexts.length 0)⟩, ⟨a, rInt, u0⟩]) (Δ := fun x => [⟨"place", rInt, x⟩]) Seen.self
    (Src.list solid_int (Ev.idxN (k := -1) (Ev.root Ev.var) (Ev.cast (Ev.neg Ev.int) (by decide)) (by decide) (by omega) (by decide) hpl)) (fun b hb => hb) (fun i => Tgt.name (by decide) fresh_name) (fun i => rfl) (fun i x hx => ?_)) ?_
  · obtain ⟨x0, x1⟩ := hin (List.mem_of_getElem? hpl) x (List.mem_of_getElem? hx)
    rw [foldl_take hx]
    simp only [List.singleton_append]
    refine ExS.cons (Γ' := [⟨"up", rAddr, a⟩, ⟨"down", rAddr, b⟩, ⟨"piles", rList (rList rInt), ps⟩, ⟨"nexts", rList (rList rInt), nexts⟩]) (M' := [⟨b, rInt, one1 (((atE ps ((ps.length : Int) - 1)).take i).foldl one1 (List.replicate nexts.length 0)) x⟩, ⟨a, rInt, u0⟩]) rfl (Ex.setItem (M₁ := []) (M₂ := [⟨a, rInt, u0⟩]) (m := ⟨b, rInt, ((atE ps ((ps.length : Int) - 1)).take i).foldl one1 (List.replicate nexts.length 0)⟩) (y := (1 : Int)) (k := x) (Γ' := [⟨"up", rAddr, a⟩, ⟨"down", rAddr, b⟩, ⟨"piles", rList (rList rInt), ps⟩, ⟨"nexts", rList (rList rInt), nexts⟩]) rfl Seen.self Ev.int Ev.var Ev.var x0 (by omega) (by rw [foldl_length one1_len, List.length_replicate]; exact x1) (fun b hb => .tail _ hb)) (ExS.nil fun b hb => hb)
  rw [List.take_length]
  generalize hd0 : (atE ps ((ps.length : Int) - 1)).foldl one1 (List.replicate nexts.length 0) = d0
  have ld0 : d0.length = nexts.length := by rw [← hd0, foldl_length one1_len, List.length_replicate]
  have hflat : ∀ {qs : List (List Int)} {x : Int}, (∀ q ∈ qs, q ∈ ps) → x ∈ (qs.flatMap fun p => p) → 0 ≤ x ∧ x < nexts.length := by
    intro qs x hq hx
    obtain ⟨q, h1, h2⟩ := List.mem_flatMap.mp hx
    exact hin (hq q h1) x h2
  have hnx : ∀ {x : Int}, 0 ≤ x → x < nexts.length → nexts[x.toNat]? = some (atE nexts x) ∧ (∀ y ∈ atE nexts x, 0 ≤ y ∧ y < nexts.length) := by
    intro x h0 h1
    have e : nexts[x.toNat]? = some (atE nexts x) := getD_at (by omega)
    exact ⟨e, (h5 _ (List.mem_of_getElem? e)).2⟩
  refine Ret.step (Ex.for (r := rInt) (xs := ps.flatMap fun p => p) (Γi := fun _ => [⟨"up", rAddr, a⟩, ⟨"down", rAddr, b⟩, ⟨"piles", rList (rList rInt), ps⟩, ⟨"nexts", rList (rList rInt), nexts⟩]) (Mi := fun i => [⟨b, rInt, d0⟩, ⟨a, rInt, ((ps.flatMap fun p => p).take i).foldl (upA nexts) u0⟩]) (Δ := fun x => [⟨"place", rInt, x⟩]) Seen.self
    (Src.list solid_int (Ev.cast (y := ps.flatMap fun p => p) (EvNew.ev (CompRun.ev rfl solid_int (run2 (r := rList rInt) (r₂ := rInt) (xs := ps) (ys := fun p => p) (p := fun _ => true) (q := fun _ _ => true) (f := fun _ y => y) (Δ := fun x => [⟨"pile", rList rInt, x⟩]) (Δ₂ := fun _ y => [⟨"place", rInt, y⟩]) (Γc := [])
      (Ev.seqL Ev.var) (by decide) caught solid_int solid_int (Tgt.name (by decide) fresh_name) (fun Pin r hr => .inl ⟨rfl, rfl⟩) (fun Pin r hr _ => Ev.var) (fun r hr => Tgt.name (by decide) fresh_name) (fun Pin r hr _ y hy => .inl ⟨rfl, rfl⟩) (fun Pin r hr _ y hy _ => Ev.var) ?_))) ?_)) (fun b hb => hb) (fun i => Tgt.name (by decide) fresh_name) (fun i => rfl) (fun i x hx => ?_)) ?_
  · rw [flat_id, sizeLine_eq]; omega
  · exact flat_id ps
  · obtain ⟨x0, x1⟩ := hflat (fun q hq => hq) (List.mem_of_getElem? hx)
    obtain ⟨e1, e2⟩ := hnx x0 x1
    rw [foldl_take hx]
    generalize hcur : ((ps.flatMap fun p => p).take i).foldl (upA nexts) u0 = cur
    have lc : cur.length = nexts.length := by rw [← hcur, foldl_length (upA_len nexts), lu0]
    simp only [List.singleton_append]
    refine ExS.cons (Γ' := ⟨"place", rInt, x⟩ :: [⟨"up", rAddr, a⟩, ⟨"down", rAddr, b⟩, ⟨"piles", rList (rList rInt), ps⟩, ⟨"nexts", rList (rList rInt), nexts⟩]) (M' := [⟨b, rInt, d0⟩, ⟨a, rInt, upA nexts cur x⟩]) rfl ?_ (ExS.nil fun b hb => .tail _ hb)
    refine Ex.castM (Ex.for (r := rInt) (xs := atE nexts x) (Γi := fun _ => ⟨"place", rInt, x⟩ :: [⟨"up", rAddr, a⟩, ⟨"down", rAddr, b⟩, ⟨"piles", rList (rList rInt), ps⟩, ⟨"nexts", rList (rList rInt), nexts⟩]) (Mi := fun j => [⟨b, rInt, d0⟩, ⟨a, rInt, ((atE nexts x).take j).foldl (up1 x) cur⟩]) (Δ := fun y => [⟨"other", rInt, y⟩]) Seen.self
      (Src.list solid_int (Ev.idx (Ev.root Ev.var) Ev.var x0 (by omega) e1)) (fun b hb => hb) (fun j => Tgt.name (by decide) fresh_name) (fun j => rfl) (fun j y hy => ?_)) (by simp only [List.take_length]; rfl)
    obtain ⟨y0, y1⟩ := e2 y (List.mem_of_getElem? hy)
    rw [foldl_take hy]
    generalize hcur2 : ((atE nexts x).take j).foldl (up1 x) cur = cu
    have lc2 : cu.length = nexts.length := by rw [← hcur2, foldl_length (up1_len x), lc]
    simp only [List.singleton_append]
    have own := seen_own (Γ := ⟨"other", rInt, y⟩ :: ⟨"place", rInt, x⟩ :: [⟨"up", rAddr, a⟩, ⟨"down", rAddr, b⟩, ⟨"piles", rList (rList rInt), ps⟩, ⟨"nexts", rList (rList rInt), nexts⟩]) (M := [⟨b, rInt, d0⟩, ⟨a, rInt, cu⟩]) (nm := "up") (m := ⟨a, rInt, cu⟩) (.tail _ (.head _)) (.tail _ (.tail _ (.head _)))
    refine ExS.cons (Γ' := ⟨"place", rInt, x⟩ :: [⟨"up", rAddr, a⟩, ⟨"down", rAddr, b⟩, ⟨"piles", rList (rList rInt), ps⟩, ⟨"nexts", rList (rList rInt), nexts⟩]) (M' := [⟨b, rInt, d0⟩, ⟨a, rInt, up1 x cu y⟩]) rfl ?_ (ExS.nil fun b hb => hb)
    refine Ex.setItem (M₁ := [⟨b, rInt, d0⟩]) (M₂ := []) (m := ⟨a, rInt, cu⟩) (y := cu.getD y.toNat 0 + cu.getD x.toNat 0) (k := y) rfl own (Ev.bin (Ev.idx (r := rInt) Ev.var Ev.var y0 (by omega) (getD_at (by omega))) (Ev.idx (r := rInt) Ev.var Ev.var x0 (by omega) (getD_at (by omega))) (op_add _ _)) Ev.var Ev.var y0 (by omega) (by rw [lc2]; exact y1) (fun b hb => .tail _ hb)
  rw [List.take_length]
  have hu1 : (ps.flatMap fun p => p).foldl (upA nexts) u0 = ups ps nexts := by unfold ups; rw [hu0]
  rw [hu1]
  generalize hU : ups ps nexts = U at h6 ⊢
  have lU : U.length = nexts.length := by rw [← hU, ← hu1, foldl_length (upA_len nexts), lu0]
  generalize hRv : pick ps none none (some (-1)) = R at h9
  have hRm : ∀ q ∈ R, q ∈ ps := fun q hq => by rw [← hRv] at hq; exact pick_mem hq
  refine Ret.step (Ex.for (r := rInt) (xs := R.flatMap fun p => p) (Γi := fun _ => [⟨"up", rAddr, a⟩, ⟨"down", rAddr, b⟩, ⟨"piles", rList (rList rInt), ps⟩, ⟨"nexts", rList (rList rInt), nexts⟩]) (Mi := fun i => [⟨b, rInt, ((R.flatMap fun p => p).take i).foldl (dnA nexts) d0⟩, ⟨a, rInt, U⟩]) (Δ := fun x => [⟨"place", rInt, x⟩]) Seen.self
    (Src.list solid_int (Ev.cast (y := R.flatMap fun p => p) (EvNew.ev (CompRun.ev rfl solid_int (run2 (r := rList rInt) (r₂ := rInt) (xs := R) (ys := fun p => p) (p := fun _ => true) (q := fun _ _ => true) (f := fun _ y => y) (Δ := fun x => [⟨"pile", rList rInt, x⟩]) (Δ₂ := fun _ y => [⟨"place", rInt, y⟩]) (Γc := [])
      (Ev.seqL (Ev.cast (Ev.slice (lo := none) (hi := none) (st := some (-1)) (Ev.root Ev.var) trivial trivial (Ev.cast (Ev.neg Ev.int) (by decide)) (by decide) (by rw [sizeLine_eq]; omega) (fun _ _ => rfl)) hRv)) (by decide) caught solid_int solid_int (Tgt.name (by decide) fresh_name) (fun Pin r hr => .inl ⟨rfl, rfl⟩) (fun Pin r hr _ => Ev.var) (fun r hr => Tgt.name (by decide) fresh_name) (fun Pin r hr _ y hy => .inl ⟨rfl, rfl⟩) (fun Pin r hr _ y hy _ => Ev.var) ?_))) ?_)) (fun b hb => hb) (fun i => Tgt.name (by decide) fresh_name) (fun i => rfl) (fun i x hx => ?_)) ?_
  · rw [flat_id, sizeLine_eq]; omega
  · exact flat_id R
  · obtain ⟨x0, x1⟩ := hflat hRm (List.mem_of_getElem? hx)
    obtain ⟨e1, e2⟩ := hnx x0 x1
    rw [foldl_take hx]
    generalize hcur : ((R.flatMap fun p => p).take i).foldl (dnA nexts) d0 = cur
    have lc : cur.length = nexts.length := by rw [← hcur, foldl_length (dnA_len nexts), ld0]
    simp only [List.singleton_append]
    refine ExS.cons (Γ' := ⟨"place", rInt, x⟩ :: [⟨"up", rAddr, a⟩, ⟨"down", rAddr, b⟩, ⟨"piles", rList (rList rInt), ps⟩, ⟨"nexts", rList (rList rInt), nexts⟩]) (M' := [⟨b, rInt, dnA nexts cur x⟩, ⟨a, rInt, U⟩]) rfl ?_ (ExS.nil fun b hb => .tail _ hb)
    refine Ex.castM (Ex.for (r := rInt) (xs := atE nexts x) (Γi := fun _ => ⟨"place", rInt, x⟩ :: [⟨"up", rAddr, a⟩, ⟨"down", rAddr, b⟩, ⟨"piles", rList (rList rInt), ps⟩, ⟨"nexts", rList (rList rInt), nexts⟩]) (Mi := fun j => [⟨b, rInt, ((atE nexts x).take j).foldl (dn1 x) cur⟩, ⟨a, rInt, U⟩]) (Δ := fun y => [⟨"other", rInt, y⟩]) Seen.self
      (Src.list solid_int (Ev.idx (Ev.root Ev.var) Ev.var x0 (by omega) e1)) (fun b hb => hb) (fun j => Tgt.name (by decide) fresh_name) (fun j => rfl) (fun j y hy => ?_)) (by simp only [List.take_length]; rfl)
    obtain ⟨y0, y1⟩ := e2 y (List.mem_of_getElem? hy)
    rw [foldl_take hy]
    generalize hcur2 : ((atE nexts x).take j).foldl (dn1 x) cur = cu
    have lc2 : cu.length = nexts.length := by rw [← hcur2, foldl_length (dn1_len x), lc]
    simp only [List.singleton_append]
    have own := seen_own (Γ := ⟨"other", rInt, y⟩ :: ⟨"place", rInt, x⟩ :: [⟨"up", rAddr, a⟩, ⟨"down", rAddr, b⟩, ⟨"piles", rList (rList rInt), ps⟩, ⟨"nexts", rList (rList rInt), nexts⟩]) (M := [⟨b, rInt, cu⟩, ⟨a, rInt, U⟩]) (nm := "down") (m := ⟨b, rInt, cu⟩) (.head _) (.tail _ (.tail _ (.tail _ (.head _))))
    refine ExS.cons (Γ' := ⟨"place", rInt, x⟩ :: [⟨"up", rAddr, a⟩, ⟨"down", rAddr, b⟩, ⟨"piles", rList (rList rInt), ps⟩, ⟨"nexts", rList (rList rInt), nexts⟩]) (M' := [⟨b, rInt, dn1 x cu y⟩, ⟨a, rInt, U⟩]) rfl ?_ (ExS.nil fun b hb => hb)
    refine Ex.setItem (M₁ := []) (M₂ := [⟨a, rInt, U⟩]) (m := ⟨b, rInt, cu⟩) (y := cu.getD x.toNat 0 + cu.getD y.toNat 0) (k := x) rfl own (Ev.bin (Ev.idx (r := rInt) Ev.var Ev.var x0 (by omega) (getD_at (by omega))) (Ev.idx (r := rInt) Ev.var Ev.var y0 (by omega) (getD_at (by omega))) (op_add _ _)) Ev.var Ev.var x0 (by omega) (by rw [lc2]; exact x1) (fun b hb => .tail _ hb)
  rw [List.take_length]
  have hd1 : (R.flatMap fun p => p).foldl (dnA nexts) d0 = dns ps nexts := by unfold dns; rw [hd0, hRv]
  rw [hd1]
  generalize hV : dns ps nexts = V
  have lV : V.length = nexts.length := by rw [← hV, ← hd1, foldl_length (dnA_len nexts), ld0]
  have own := seen_cons (nm := "up") (m := ⟨a, rInt, U⟩) (seen_own (Γ := [⟨"up", rAddr, a⟩, ⟨"down", rAddr, b⟩, ⟨"piles", rList (rList rInt), ps⟩, ⟨"nexts", rList (rList rInt), nexts⟩]) (M := [⟨b, rInt, V⟩, ⟨a, rInt, U⟩]) (nm := "down") (m := ⟨b, rInt, V⟩) (.head _) (.tail _ (.head _))) (.tail _ (.head _)) (.head _)
  refine Ret.cast (Ret.ret own (Ev.compAll (r := rList rInt) (r' := rList rInt) (xs := ps) (f := fun pile => (rng 0 ((pile.length : Int)).toNat).map fun k => ((pick pile none (some (k + 1)) none).map fun place => U.getD place.toNat 0 * V.getD place.toNat 0).sum) (Δ := fun x => [⟨"pile", rList rInt, x⟩]) (Γc := [⟨"up", rRoot rInt, U⟩, ⟨"down", rRoot rInt, V⟩])
    (Ev.seqL Ev.var) caught solid_lint (Tgt.name (by decide) fresh_name) (fun Pin pile hpile => ?_) (by omega))) (by unfold sums; rw [hU, hV])
  obtain ⟨hl, hx⟩ := h4 pile hpile
  dsimp only [List.singleton_append]
  refine Ev.cast (Ev.compAll (r := rInt) (r' := rInt) (xs := rng 0 ((pile.length : Int)).toNat) (f := fun k => ((pick pile none (some (k + 1)) none).map fun place => U.getD place.toNat 0 * V.getD place.toNat 0).sum) (Δ := fun x => [⟨"k", rInt, x⟩]) (Γc := [⟨"pile", rList rInt, pile⟩, ⟨"up", rRoot rInt, U⟩, ⟨"down", rRoot rInt, V⟩])
    (Ev.rseq (Ev.range1 (Ev.len (Ev.root Ev.var) (by omega)) (by omega) (by omega))) caught solid_int (Tgt.name (by decide) fresh_name) (fun Pin k hk => ?_) (by rw [rng_length]; omega)) rfl
  have hk7 := h7 pile hpile k (by rw [Int.toNat_natCast] at hk; exact hk)
  obtain ⟨k0, k1⟩ := rng_mem' hk
  refine Ev.sum (Ev.root (Ev.compAll (r := rInt) (r' := rInt) (xs := pick pile none (some (k + 1)) none) (f := fun place => U.getD place.toNat 0 * V.getD place.toNat 0) (Δ := fun x => [⟨"place", rInt, x⟩]) (Γc := [⟨"up", rRoot rInt, U⟩, ⟨"down", rRoot rInt, V⟩])
    (Ev.seqL (Ev.slice (lo := none) (hi := some (k + 1)) (st := none) (Ev.root Ev.var) trivial (Ev.bin Ev.var Ev.int (op_add _ _)) trivial (by decide) (by rw [sizeLine_eq]; omega) (fun _ _ => rfl))) caught solid_int (Tgt.name (by decide) fresh_name) (fun Pin x hx' => ?_) (by omega)))
  obtain ⟨x0, x1⟩ := hx x (pick_mem hx')
  have hu := h6 (U.getD x.toNat 0) (List.mem_of_getElem? (getD_at (d := 0) (show x.toNat < U.length by omega)))
  exact Ev.bin (Ev.idx (r := rInt) Ev.var Ev.var x0 (by omega) (getD_at (by omega))) (Ev.idx (r := rInt) Ev.var Ev.var x0 (by omega) (getD_at (by omega))) (op_mul _ _ (mulOk' (by omega) (by omega)))
theorem sum_call {nm : Str} {a : Addr} {ps nexts : List (List Int)} (hx : D.fn nm = some (a, fSum)) (ok : okSums ps nexts = true) :
    CallsTo prog w D (n + 1) P (.ref a) [⟨rList (rList rInt), ps⟩, ⟨rList (rList rInt), nexts⟩] [] [] (rList (rList rInt)) (sums ps nexts) :=
  ret_call hx fits_sum (pos_args rfl rfl (by decide) (by decide)) fun P => sum_block ok P
end
end Mine
end

section
open PySem PySem.W
set_option Elab.async false
set_option linter.unusedVariables false
set_option linter.unusedSectionVars false
set_option maxRecDepth 10000
open PyProof.Rows
namespace Mine
/-- the float is the whole number i -/
noncomputable def isI (x : UInt64) (i : Int) : Bool := match Float64.decode x with
  | .fin a m e => if e ≥ 0 then Float64.sgn a m * 2 ^ e.toNat == i else Float64.sgn a m == i * 2 ^ (-e).toNat
  | _ => false
theorem cmp_some_eq (a b : Int) : (some (compare a b) == some Ordering.eq) = (a == b) := by
  rw [Bool.eq_iff_iff, beq_iff_eq, beq_iff_eq, Option.some.injEq]
  exact Int.compare_eq_eq
theorem isI_cmp {x : UInt64} {i : Int} (h : isI x i = true) (j : Int) : (Float64.cmpInt x j == some Ordering.eq) = (i == j) := by
  unfold isI at h
  unfold Float64.cmpInt
  split at h
  · rename_i a m e hd
    rw [hd]
    dsimp only
    split at h
    · rename_i he
      rw [if_pos he, cmp_some_eq, eq_of_beq h]
    · rename_i he
      rw [if_neg he, cmp_some_eq, eq_of_beq h]
      have hp : (0 : Int) < 2 ^ (-e).toNat := Int.pow_pos (by decide)
      rw [Bool.eq_iff_iff, beq_iff_eq, beq_iff_eq]
      exact ⟨fun q => Int.eq_of_mul_eq_mul_right (by omega) q, fun q => by rw [q]⟩
  · cases h
/-- the float's double is the whole number s -/
noncomputable def isH (x : UInt64) (s : Int) : Bool := isI (Float64.mul (Float64.ofInt 2) x) s
/-- the quotients that occur -/
noncomputable def tblH (k : Nat) : Bool := (List.range 81).all fun (j : Nat) =>
  let s : Int := (j : Int) - 40
  !Float64.isInf (fdv (s * (k : Int)) (2 * (k : Int))) && isH (fdv (s * (k : Int)) (2 * (k : Int))) s
theorem tblAll : ((List.range 16).all fun k => k == 0 || tblH k) = true := by decide +kernel
theorem tbl_all (k : Nat) (h1 : 1 ≤ k) (h2 : k ≤ 15) : tblH k = true := by
  have h := List.all_eq_true.mp tblAll k (List.mem_range.mpr (Nat.lt_succ_of_le h2))
  rw [Bool.or_eq_true, beq_iff_eq] at h
  exact h.resolve_left (Nat.ne_of_gt h1)
theorem half_of {a n s k : Int} (h1 : 1 ≤ k) (h2 : k ≤ 15) (h3 : -40 ≤ s) (h4 : s ≤ 40) (ha : a = s * k) (hn : n = 2 * k) : Float64.isInf (fdv a n) = false ∧ isH (fdv a n) s = true := by
  have t := tbl_all k.toNat (by omega) (by omega)
  unfold tblH at t
  rw [List.all_eq_true] at t
  have := t (s + 40).toNat (List.mem_range.mpr (by omega))
  dsimp only at this
  rw [show (((s + 40).toNat : Nat) : Int) - 40 = s by omega, show ((k.toNat : Nat) : Int) = k by omega, ← ha, ← hn, Bool.and_eq_true, Bool.not_eq_true'] at this
  exact this

variable [Lim]
noncomputable def rFI : Rel Int := ⟨fun _ _ v i => ∃ x t, v = .float x t ∧ isI x i = true, fun _ _ e => e⟩
noncomputable def rHalf : Rel Int := ⟨fun _ _ v s => ∃ x t, v = .float x t ∧ isH x s = true, fun _ _ e => e⟩
theorem solid_fi : Solid rFI := fun _ e => e
theorem solid_half : Solid rHalf := fun _ e => e
theorem eqR_fi : EqR 0 rFI rInt fun a b => a == b :=
  ⟨fun A s P P' v u x y _ ⟨f, t, e, hf⟩ ⟨t', e'⟩ => by
    subst e e'
    intro prog w E Q h
    unfold eqBool
    refine wpAny_holding ?_
    refine wpAny_ite_split (fun hab => absurd (eq_of_beq hab) nofun) (fun _ => ?_)
    refine wpAny_bind ?_
    show wpAny _ A (compareOp .Eq (.float f t) (.int y t')) _ E s
    refine PyProof.Rows.eq_fi (wpAny_truthy_bool ?_)
    rw [isI_cmp hf]; exact h,
   fun P P' h v x y ⟨f, t, e, _⟩ ⟨t', e'⟩ => by subst e; cases e'⟩

section
variable {prog : Program} {w : World} {D : Wd} {sc : Scope} {env : Env} {P : Addr → Prop} {Γ Γ' Θ : List Bnd} {M : List Mu} {n : Nat} {A : Around} {α β γ : Type} {r : Rel α} {r' : Rel β} {r₂ : Rel γ} {s : Shared} {E : Value → Shared → Prop}
theorem op_mulH (x : Int) : Op2 prog w D n P (binaryOp .Mult) rInt 2 rHalf x rFI x := by
  rintro A s E v u hL hW hF ⟨t, rfl⟩ ⟨f, t', rfl, hf⟩
  exact AutoFloatOps.mul_if_1 (by decide +kernel) ⟨keeps_tok s _, _, _, rfl, hf⟩
theorem op_neFI (a b : Int) : Op2 prog w D n P (compareOp .NotEq) rFI a rInt b rBool (a != b) := by
  rintro A s E v u hL hW hF ⟨f, t, rfl, hf⟩ ⟨t', rfl⟩
  refine PyProof.Rows.ne_fi ⟨keeps_refl s, ?_⟩
  show Value.bool _ = Value.bool _
  rw [bne, isI_cmp hf]; rfl
-- isinstance
theorem isi_int (x : Int) : Op2 prog w D n P (fun v u => call (.builtin "isinstance") [v, u]) rInt x rVal (.type "float") rBool false := by
  rintro A s E v u hL hW hF ⟨t, rfl⟩ rfl
  exact IsiPair.int_float ⟨keeps_tok s _, rfl⟩
theorem isi_half (x : Int) : Op2 prog w D n P (fun v u => call (.builtin "isinstance") [v, u]) rHalf x rVal (.type "float") rBool true := by
  rintro A s E v u hL hW hF ⟨f, t, rfl, _⟩ rfl
  exact IsiPair.float_float ⟨keeps_refl s, rfl⟩
theorem isi_list {r : Rel α} (xs : List α) : Op2 prog w D n P (fun v u => call (.builtin "isinstance") [v, u]) (rRoot r) xs rVal (.type "list") rBool true := by
  rintro A s E v u hL hW hF ⟨a, items, rfl, ⟨o, ho, hc, hd⟩, _⟩ rfl
  exact IsiPair.list_list ho hc ⟨keeps_refl s, rfl⟩
theorem Et.not {x : Expr} {pos : Pos} {b : Bool} (h : Et prog w D n sc Γ P x b) : Et prog w D n sc Γ P (.UnaryOp .Not x pos) (!b) := by
  intro A env s E hL hE hW hF hV
  refine wpAny_isTrue_Not (wpAny_mono (h A env s E hL hE hW hF hV) (fun c s₁ h₁ => ⟨h₁.1, by rw [h₁.2]⟩) fun _ _ e => e)
theorem Et.or3 {x y z : Expr} {pos : Pos} (hx : Et prog w D n sc Γ P x false) (hy : Et prog w D n sc Γ P y false) (hz : Et prog w D n sc Γ P z false) : Et prog w D n sc Γ P (.BoolOp .Or [x, y, z] pos) false := by
  intro A env s E hL hE hW hF hV
  refine wpAny_isTrue_BoolOp (wpAny_allTrue_Or_cons (wpAny_mono (hx A env s E hL hE hW hF hV) (fun c s₁ h₁ => ?_) fun _ _ e => e))
  obtain ⟨k, rfl⟩ := h₁
  have k₁ := keeps_keep k
  simp only [Bool.false_eq_true, if_false]
  refine wpAny_allTrue_Or_cons (wpAny_mono (hy A env s₁ E hL hE (hW.keep k₁) (hF.keep k₁) (hV.keep k₁)) (fun c s₂ h₂ => ?_) fun _ _ e => e)
  obtain ⟨k', rfl⟩ := h₂
  have k₂ := k₁.trans (keeps_keep k')
  simp only [Bool.false_eq_true, if_false]
  refine wpAny_allTrue_Or_cons (wpAny_mono (hz A env s₂ E hL hE (hW.keep k₂) (hF.keep k₂) (hV.keep k₂)) (fun c s₃ h₃ => ?_) fun _ _ e => e)
  obtain ⟨k'', rfl⟩ := h₃
  simp only [Bool.false_eq_true, if_false]
  exact wpAny_allTrue_Or_nil ⟨keeps_trans k (keeps_trans k' k''), by simp⟩
theorem Ev.andT {x y : Expr} {pos : Pos} {b : Bool} (hx : Ev prog w D n sc Γ P x rBool true) (hy : Ev prog w D n sc Γ P y rBool b) : Ev prog w D n sc Γ P (.BoolOp .And [x, y] pos) rBool b := by
  intro A env s E hL hE hW hF hV
  refine PyProof.Rows.BoolOp_and (wpAny_mono (hx A env s E hL hE hW hF hV) (fun v s₁ h₁ => ?_) fun _ _ e => e)
  obtain ⟨k, rfl⟩ := h₁
  have k₁ := keeps_keep k
  refine wpAny_truthy_bool ?_
  simp only [if_true]
  refine PyProof.Rows.BoolOp_one (wpAny_mono (hy A env s₁ E hL hE (hW.keep k₁) (hF.keep k₁) (hV.keep k₁)) (fun v s₂ h₂ => ⟨keeps_trans k h₂.1, h₂.2⟩) fun _ _ e => e)
/-- what bears one thing bears another -/
noncomputable def Imp (r : Rel α) (x : α) (r' : Rel β) (y : β) : Prop := ∀ P h v, r.is P h v x → r'.is P h v y
theorem Ev.imp {e : Expr} {x : α} {y : β} (h : Ev prog w D n sc Γ P e r x) (i : Imp r x r' y) : Ev prog w D n sc Γ P e r' y :=
  fun A env s E hL hE hW hF hV => wpAny_mono (h A env s E hL hE hW hF hV) (fun _ _ k => ⟨k.1, i _ _ _ k.2⟩) fun _ _ e => e
theorem CallsTo.imp {f : Value} {bs ks : List Bv} {names : List Str} {x : α} {y : β} (h : CallsTo prog w D n P f bs names ks r x) (i : Imp r x r' y) : CallsTo prog w D n P f bs names ks r' y :=
  fun A s vs kvs E hL hW hF ha hk => wpAny_mono (h A s vs kvs E hL hW hF ha hk) (fun _ _ k => ⟨k.1, i _ _ _ k.2⟩) fun _ _ e => e
theorem imp_half {x : UInt64} {s : Int} (h : isH x s = true) : Imp rFlt x rHalf s := fun P hp v ⟨t, e⟩ => ⟨x, t, e, h⟩
theorem imp_list {f : γ → α} {g : γ → β} {l : List γ} (h : ∀ x ∈ l, Imp r (f x) r' (g x)) : Imp (rList r) (l.map f) (rList r') (l.map g) := fun P hp v e => by
  obtain ⟨a, items, rfl, pa, hl, hi⟩ := e
  refine ⟨a, items, rfl, pa, hl, ?_⟩
  generalize items.toList = vs at hi
  clear hl
  induction l generalizing vs with
  | nil => cases hi; exact .nil
  | cons y l ih =>
    cases hi with
    | cons a b => exact .cons (h y (.head _) _ _ _ a) (ih (fun z hz => h z (.tail _ hz)) _ b)
end
end Mine
end

section
open PySem PySem.W
set_option Elab.async false
set_option linter.unusedVariables false
set_option linter.unusedSectionVars false
set_option maxRecDepth 10000
set_option maxHeartbeats 4000000
open PyProof.Rows
namespace Mine
variable [Lim]
noncomputable def eqI (l m : List Int) : Bool := leq (fun a b : Int => a == b) l m
theorem eqI_eq {l m : List Int} (h : eqI l m = true) : l = m := by
  unfold eqI at h
  rw [leq_beq] at h
  exact eq_of_beq h
theorem leq_rfl (l : List Int) : leq (fun a b : Int => a == b) l l = true := by rw [leq_beq]; simp
noncomputable def inN (N : Nat) (p : Int) : Bool := decide (-(N : Int) ≤ p) && decide (p < 0)
noncomputable def colNum (row : List Int) (p : Int) : Int := row.getD (p + row.length).toNat 1
noncomputable def halfAt (due : List Int) (t : Int) : Int := due.getD (t.fdiv 2).toNat 0 + due.getD ((t + 1).fdiv 2).toNat 0
noncomputable def exclNum (d : List Int) (n i : Int) : Int :=
  let j := exclJ d.length n i
  let delta := i * ((d.length : Int) + 1) - j * n
  d.getD (j - 1).toNat 0 * (n - delta) + d.getD j.toNat 0 * delta
noncomputable def inclNum (d : List Int) (n i : Int) : Int :=
  d.getD ((i * ((d.length : Int) - 1)).fdiv n).toNat 0 * (n - (i * ((d.length : Int) - 1)).fmod n) + d.getD (((i * ((d.length : Int) - 1)).fdiv n).toNat + 1) 0 * (i * ((d.length : Int) - 1)).fmod n
theorem exclAt_num (d : List Int) (n i : Int) : exclAt d n i = fdv (exclNum d n i) n := rfl
theorem inclAt_num (d : List Int) (n i : Int) : inclAt d n i = fdv (inclNum d n i) n := rfl
noncomputable def halfOk (a k : Int) : Bool := decide (a = a.fdiv k * k) && decide (-40 ≤ a.fdiv k) && decide (a.fdiv k ≤ 40)
noncomputable def cutsS (d : List Int) (size : Int) : List Int := (rng 1 (2 * size + 2 - 1).toNat).map fun i => (exclNum d (2 * size + 2) i).fdiv (size + 1)
noncomputable def innS (d : List Int) (size : Int) : List Int := (rng 1 (2 * size - 2 - 1).toNat).map fun i => (inclNum d (2 * size - 2) i).fdiv (size - 1)
noncomputable def halves (due : List Int) (size : Int) : List Int := (rng 0 (2 * size - 1).toNat).map (halfAt due)
noncomputable def endsOf (half : List Int) : List Int := [2 * half.getD 0 0 - half.getD 1 0] ++ half ++ [2 * half.getD (half.length - 1) 0 - half.getD (half.length - 2) 0]
noncomputable def okCol2 (size : Int) (d due : List Int) : Bool :=
  decide ((size.toNat : Int) ≤ due.length) &&
  (rng 1 (2 * size + 2 - 1).toNat).all (fun i => halfOk (exclNum d (2 * size + 2) i) (size + 1)) &&
  (rng 1 (2 * size - 2 - 1).toNat).all (fun i => halfOk (inclNum d (2 * size - 2) i) (size - 1) && decide (((i * (size - 1)).fdiv (2 * size - 2)).toNat + 1 < size.toNat) && decide (0 ≤ (i * (size - 1)).fdiv (2 * size - 2))) &&
  eqI (innS d size) (pick (halves due size) (some 1) (some (-1)) none) && eqI (cutsS d size) (endsOf (halves due size))
noncomputable def okCol (row column picks : List Int) : Bool :=
  decide (1 ≤ column.length) && decide (column.length ≤ 14) && decide (row.length < 100) && decide (picks.length < 100) && column.all (inN row.length) && inN row.length (medLow column) && inN row.length (medHigh column) &&
  eqI [medLow column, medHigh column] (pick picks none (some 2) none) && eqI column (pick column none none none) && eqI (pick column none (some 1) none) [column.getD 0 0] &&
  eqI [medHigh (column.map (colNum row)), medLow (column.map (colNum row))] [colNum row (medLow column), colNum row (medHigh column)] &&
  (if column.length % 2 = 1 then medLow column == medHigh column else decide (-40 ≤ medLow column + medHigh column) && decide (medLow column + medHigh column ≤ 40)) && decide ((pick picks (some 2) none none).length < 100) &&
  if column.length = 1 then eqI (List.replicate 3 column).flatten (List.replicate 3 (pick picks (some 2) none none)).flatten else okCol2 column.length (isort column) (pick picks (some 2) none none)

noncomputable def fCol : Fn := fnOfStm 16 (bindPos ["row", "column", "picks"])
theorem fits_col : FnFits fCol := ⟨rfl, rfl, rfl, by decide, by decide⟩
/-- the middle of the column -/
inductive MidIs (column : List Int) : {β : Type} → Rel β → β → Prop
  | odd : column.length % 2 = 1 → MidIs column rInt (medHigh column)
  | even : column.length % 2 = 0 → MidIs column rHalf (medLow column + medHigh column)
section
variable {prog : Program} {w : World} {D : Wd} {sc : Scope} {P : Addr → Prop} {Γ Γ' Θ : List Bnd} {M : List Mu} {n : Nat} {A : Around} {α β γ : Type} {r : Rel α} {r' : Rel β} {aL aH aM aQ : Addr}
theorem mid_call {nm : Str} {a : Addr} {xs : List Int} (hx : D.fn nm = some (a, fMed)) (h0 : 0 < xs.length) (hsz : xs.length < 64) (hb : xs.length % 2 = 0 → -40 ≤ medLow xs + medHigh xs ∧ medLow xs + medHigh xs ≤ 40) :
    ∃ (β : Type) (rm : Rel β) (ym : β), MidIs xs rm ym ∧ Solid rm ∧ ∀ P, CallsTo prog w D (n + 1) P (.ref a) [⟨rRoot rInt, xs⟩] [] [] rm ym := by
  by_cases c : xs.length % 2 = 1
  · exact ⟨_, rInt, _, .odd c, solid_int, fun P => med_odd hx c hsz⟩
  · have c' : xs.length % 2 = 0 := by omega
    obtain ⟨b1, b2⟩ := hb c'
    obtain ⟨e1, e2⟩ := half_of (a := medLow xs + medHigh xs) (n := 2) (s := medLow xs + medHigh xs) (k := 1) (by decide) (by decide) b1 b2 (by omega) (by omega)
    exact ⟨_, rHalf, _, .even c', solid_half, fun P => (med_even hx h0 c' e1 hsz).imp (imp_half e2)⟩
theorem Ev.isi {v : Expr} {e p pos : Pos} {nm : Str} {T : String} {x : α} {b : Bool} (hm : (nm, Value.type T) ∈ builtinList) (hv : Ev prog w D n sc Γ P v r x) (ho : Op2 prog w D n P (fun v u => PySem.call (.builtin "isinstance") [v, u]) r x rVal (.type T) rBool b)
    (hx : sc.names.lookup ("isinstance" : Str) = some .globalImplicit := by decide) (hy : sc.names.lookup nm = some .globalImplicit := by decide) (hd : (nm == ("__debug__" : Str)) = false := by decide)
    (ht : ∀ env, backTo pos (starEach [v, .Name nm e] env) = [(false, eval v env), (false, eval (.Name nm e) env)] := by intro _; rfl) :
    Ev prog w D n sc Γ P (.Call (.Name "isinstance" p) [v, .Name nm e] [] pos) rBool b :=
  Ev.callB2 (id := "isinstance") (by decide) hv (Ev.bi hm hy hd) ho hx (by decide) ht
theorem Ev.call1 {id : Str} {p pos : Pos} {e : Expr} {x : α} {a : Addr} {F : Fn} {y : β} (hx : D.fn id = some (a, F)) (he : Ev prog w D n sc Γ P e r x) (hc : CallsTo prog w D n P (.ref a) [⟨r, x⟩] [] [] r' y)
    (hg : sc.names.lookup id = some .globalImplicit := by decide) (hd : (id == ("__debug__" : Str)) = false := by decide) (ht : ∀ env, backTo pos (starEach [e] env) = [e].map fun e => (false, eval e env) := by intro _; rfl)
    (hkt : ∀ env, backToKw pos (keywordEach [] env) = (([] : List Str).zip ([] : List Expr)).map fun q => (some q.1, (do let v ← eval q.2 env; standAt pos; pure v)) := by intro _; rfl) : Ev prog w D n sc Γ P (.Call (.Name id p) [e] [] pos) r' y :=
  Ev.call (names := []) (ks := []) (kes := []) (bs := [⟨r, x⟩]) (Ev.glob hg (D.fl _ _ _ hx) hd) hx ⟨he, trivial⟩ trivial hc (by simp) ht hkt rfl

/-- one argument by place, one by name -/
theorem Ev.callK1 {id k : Str} {p pos kp : Pos} {e e' : Expr} {x : α} {x' : β} {γ : Type} {r₂ : Rel γ} {a : Addr} {F : Fn} {y : γ} (hx : D.fn id = some (a, F)) (he : Ev prog w D n sc Γ P e r x) (he' : Ev prog w D n sc Γ P e' r' x') (hc : CallsTo prog w D n P (.ref a) [⟨r, x⟩] [k] [⟨r', x'⟩] r₂ y)
    (hg : sc.names.lookup id = some .globalImplicit := by decide) (hd : (id == ("__debug__" : Str)) = false := by decide) (ht : ∀ env, backTo pos (starEach [e] env) = [e].map fun e => (false, eval e env) := by intro _; rfl) :
    Ev prog w D n sc Γ P (.Call (.Name id p) [e] [⟨some k, e', kp⟩] pos) r₂ y :=
  Ev.call (names := [k]) (ks := [⟨r', x'⟩]) (kes := [e']) (bs := [⟨r, x⟩]) (Ev.glob hg (D.fl _ _ _ hx) hd) hx ⟨he, trivial⟩ ⟨he', trivial⟩ hc (by simp) ht (fun _ => rfl) rfl
theorem Ev.callK2 {id k k' : Str} {p pos kp kp' : Pos} {e e' e'' : Expr} {x : α} {x' : β} {δ : Type} {r₃ : Rel δ} {x'' : δ} {γ : Type} {r₂ : Rel γ} {a : Addr} {F : Fn} {y : γ} (hx : D.fn id = some (a, F)) (he : Ev prog w D n sc Γ P e r x) (he' : Ev prog w D n sc Γ P e' r' x') (he'' : Ev prog w D n sc Γ P e'' r₃ x'') (hc : CallsTo prog w D n P (.ref a) [⟨r, x⟩] [k, k'] [⟨r', x'⟩, ⟨r₃, x''⟩] r₂ y)
    (hg : sc.names.lookup id = some .globalImplicit := by decide) (hd : (id == ("__debug__" : Str)) = false := by decide) (ht : ∀ env, backTo pos (starEach [e] env) = [e].map fun e => (false, eval e env) := by intro _; rfl) :
    Ev prog w D n sc Γ P (.Call (.Name id p) [e] [⟨some k, e', kp⟩, ⟨some k', e'', kp'⟩] pos) r₂ y :=
  Ev.call (names := [k, k']) (ks := [⟨r', x'⟩, ⟨r₃, x''⟩]) (kes := [e', e'']) (bs := [⟨r, x⟩]) (Ev.glob hg (D.fl _ _ _ hx) hd) hx ⟨he, trivial⟩ ⟨he', he'', trivial⟩ hc (by simp) ht (fun _ => rfl) rfl
theorem getDneg {xs : List Int} {k : Int} (h : inN xs.length k = true) : xs[(k + xs.length).toNat]? = some (colNum xs k) := by
  unfold inN at h
  simp only [Bool.and_eq_true, decide_eq_true_eq] at h
  exact getD_at (by omega)
theorem Ev.idxC {row : List Int} {k : Int} {value slice : Expr} {pos : Pos} (hr : row.length < 100) (hv : Ev prog w D n sc Γ P value (rRoot rInt) row) (hi : Ev prog w D n sc Γ P slice rInt k) (h : inN row.length k = true)
    (hs : ∀ l u, subscripted slice false (.ref l) (.int k u) = operate [.ref l, .int k u] (getItem (.ref l) (.int k u)) := by intro _ _; with_unfolding_all rfl) : Ev prog w D n sc Γ P (.Subscript value slice pos) rInt (colNum row k) := by
  have h' := h
  unfold inN at h'
  simp only [Bool.and_eq_true, decide_eq_true_eq] at h'
  exact Ev.idxN hv hi h'.2 h'.1 (by omega) (getDneg h) hs
/-- the third statement's test -/
theorem mid_test {column : List Int} {rm : Rel β} {ym : β} (hm : MidIs column rm ym) (hlh : column.length % 2 = 1 → medLow column = medHigh column) {picks told : List Int} {size : Int} (hsz : size = column.length) (hs : told = [medLow column, medHigh column])
    (hp : pick picks none (some 2) none = told) (hpl : picks.length < 100) {p1 p2 p3 p4 p5 p6 p7 p8 p9 p10 p11 p12 p13 p14 p15 p16 p17 p18 p19 p20 p21 p22 p23 p24 : Pos}
    (m1 : (⟨"told", rList rInt, told⟩ : Bnd) ∈ Γ) (m2 : (⟨"middle", rm, ym⟩ : Bnd) ∈ Γ) (m3 : (⟨"size", rInt, size⟩ : Bnd) ∈ Γ) (m4 : (⟨"picks", rRoot rInt, picks⟩ : Bnd) ∈ Γ)
    (hx : sc.names.lookup ("isinstance" : Str) = some .globalImplicit) (hy : sc.names.lookup ("float" : Str) = some .globalImplicit) (hz : sc.names.lookup ("sum" : Str) = some .globalImplicit) :
    Et prog w D n sc Γ P (.BoolOp .Or [.Compare (.Name "told" p1) [.NotEq] [.Subscript (.Name "picks" p2) (.Slice none (some (.Constant (.int 2) 0 p3)) none p4) p5] p6,
      .Compare (.BinOp (.Constant (.int 2) 0 p7) .Mult (.Name "middle" p8) p9) [.NotEq] [.Call (.Name "sum" p10) [.Name "told" p11] [] p12] p13,
      .Compare (.Call (.Name "isinstance" p14) [.Name "middle" p15, .Name "float" p16] [] p17) [.NotEq] [.Compare (.BinOp (.Name "size" p18) .Mod (.Constant (.int 2) 0 p19) p20) [.Eq] [.Constant (.int 0) 0 p21] p22] p23] p24) false := by
  subst hs hsz
  refine Et.or3 (Et.cast (Et.cmp (Ev.root (Ev.var m1)) (Ev.root (Ev.slice (lo := none) (hi := some 2) (st := none) (Ev.var m4) trivial Ev.int trivial (by decide) (by rw [sizeLine_eq]; omega) (fun _ _ => rfl))) (op_neL eqR_int _ _)) (by rw [hp, leq_rfl]; rfl)) ?_ ?_
  · cases hm with
    | odd c => exact Et.cast (Et.cmp (Ev.bin Ev.int (Ev.var m2) (op_mul _ _ (mulOk' (by decide) (by decide)))) (Ev.sum (Ev.root (Ev.var m1)) hz) (op_ne _ _)) (by
        simp only [List.sum_cons, List.sum_nil]
        rw [hlh c, bne_eq_false_iff_eq]; omega)
    | even c => exact Et.cast (Et.cmp (Ev.bin Ev.int (Ev.var m2) (op_mulH _)) (Ev.sum (Ev.root (Ev.var m1)) hz) (op_neFI _ _)) (by
        simp only [List.sum_cons, List.sum_nil]
        rw [bne_eq_false_iff_eq]; omega)
  · have hmod : Ev prog w D n sc Γ P (.Compare (.BinOp (.Name "size" p18) .Mod (.Constant (.int 2) 0 p19) p20) [.Eq] [.Constant (.int 0) 0 p21] p22) rBool ((column.length : Int).fmod 2 == 0) :=
      Ev.cmp (Ev.bin (Ev.var m3) Ev.int (op_mod _ _ (by decide))) Ev.int (op_eq _ _)
    have e2 : (column.length : Int).fmod 2 = ((column.length % 2 : Nat) : Int) := by rw [Int.fmod_eq_emod_of_nonneg _ (by decide)]; omega
    cases hm with
    | odd c => exact Et.cast (Et.cmp (Ev.isi (by decide) (Ev.var m2) (isi_int _) hx hy) hmod (op_neB _ _)) (by rw [e2, c]; rfl)
    | even c => exact Et.cast (Et.cmp (Ev.isi (by decide) (Ev.var m2) (isi_half _) hx hy) hmod (op_neB _ _)) (by rw [e2, c]; rfl)
end
end Mine
end

section
open PySem PySem.W
set_option Elab.async false
set_option linter.unusedVariables false
set_option linter.unusedSectionVars false
set_option maxRecDepth 10000
set_option maxHeartbeats 4000000
open PyProof.Rows
namespace Mine
variable [Lim]
section
variable {prog : Program} {w : World} {D : Wd} {sc : Scope} {P : Addr → Prop} {Γ Γ' Θ : List Bnd} {M : List Mu} {n : Nat} {A : Around} {α β γ : Type} {r : Rel α} {r' : Rel β} {aL aH aM aQ : Addr}
noncomputable abbrev colG0 (row column picks : List Int) : List Bnd := [⟨"row", rRoot rInt, row⟩, ⟨"column", rRoot rInt, column⟩, ⟨"picks", rRoot rInt, picks⟩]
noncomputable abbrev colG1 (row column picks : List Int) : List Bnd := ⟨"size", rInt, (column.length : Int)⟩ :: ⟨"kept", rList rInt, column⟩ :: ⟨"due", rList rInt, pick picks (some 2) none none⟩ :: colG0 row column picks
theorem halfOk_of {a k n : Int} (h : halfOk a k = true) (h1 : 1 ≤ k) (h2 : k ≤ 15) (hn : n = 2 * k) : Float64.isInf (fdv a n) = false ∧ isH (fdv a n) (a.fdiv k) = true := by
  unfold halfOk at h
  simp only [Bool.and_eq_true, decide_eq_true_eq] at h
  exact half_of h1 h2 h.1.2 h.2 h.1.1 hn
/-- the quantiles of two places or more, as doubles -/
theorem cuts_call {nm : Str} {a : Addr} {xs : List Int} (hx : D.fn nm = some (a, fQ)) (h1 : 2 ≤ xs.length) (h2 : xs.length ≤ 14)
    (hok : (rng 1 (2 * (xs.length : Int) + 2 - 1).toNat).all (fun i => halfOk (exclNum (isort xs) (2 * (xs.length : Int) + 2) i) ((xs.length : Int) + 1)) = true) :
    CallsTo prog w D (n + 1) P (.ref a) [⟨rRoot rInt, xs⟩] ["n"] [⟨rInt, 2 * (xs.length : Int) + 2⟩] (rList rHalf) (cutsS (isort xs) xs.length) := by
  rw [List.all_eq_true] at hok
  have hh : ∀ i ∈ rng 1 (2 * (xs.length : Int) + 2 - 1).toNat, _ := fun i hi => halfOk_of (n := 2 * (xs.length : Int) + 2) (hok i hi) (by omega) (by omega) (by omega)
  exact (q_callN hx fun P => q_excl (by omega) (by omega) h1 (by omega) fun i hi => (hh i hi).1).imp (imp_list fun i hi => imp_half (hh i hi).2)
theorem inner_call {nm : Str} {a : Addr} {xs : List Int} (hx : D.fn nm = some (a, fQ)) (h1 : 2 ≤ xs.length) (h2 : xs.length ≤ 14) (hb : ∀ x ∈ xs, -1000 ≤ x ∧ x ≤ 1000)
    (hok : (rng 1 (2 * (xs.length : Int) - 2 - 1).toNat).all (fun i => halfOk (inclNum (isort xs) (2 * (xs.length : Int) - 2) i) ((xs.length : Int) - 1) && decide (((i * ((xs.length : Int) - 1)).fdiv (2 * (xs.length : Int) - 2)).toNat + 1 < xs.length) && decide (0 ≤ (i * ((xs.length : Int) - 1)).fdiv (2 * (xs.length : Int) - 2))) = true) :
    CallsTo prog w D (n + 1) P (.ref a) [⟨rRoot rInt, xs⟩] ["n", "method"] [⟨rInt, 2 * (xs.length : Int) - 2⟩, ⟨rStr, "inclusive"⟩] (rList rHalf) (innS (isort xs) xs.length) := by
  rw [List.all_eq_true] at hok
  simp only [Bool.and_eq_true, decide_eq_true_eq] at hok
  have hh : ∀ i ∈ rng 1 (2 * (xs.length : Int) - 2 - 1).toNat, _ := fun i hi => halfOk_of (n := 2 * (xs.length : Int) - 2) (hok i hi).1.1 (by omega) (by omega) (by omega)
  exact (q_callM hx fun P => q_incl (by omega) (by omega) h1 (by omega) hb (fun i hi => ⟨(hok i hi).1.2, (hok i hi).2⟩) fun i hi => (hh i hi).1).imp (imp_list fun i hi => imp_half (hh i hi).2)
theorem in_false {l : List Bool} (h : ∀ x ∈ l, x = false) : (l.any fun x => x == true) = false := by
  rw [List.any_eq_false]
  intro x hx
  rw [h x hx]; decide
theorem in_true {l : List Bool} (h : ∀ x ∈ l, x = true) : (l.any fun x => x == false) = false := by
  rw [List.any_eq_false]
  intro x hx
  rw [h x hx]; decide
theorem medLow_odd {xs : List Int} (c : xs.length % 2 = 1) : medLow xs = medHigh xs := by unfold medLow medHigh; rw [if_pos c]
theorem inN_bd {N : Nat} {x : Int} (h : inN N x = true) (hN : N < 100) : -1000 ≤ x ∧ x ≤ 1000 := by
  unfold inN at h
  simp only [Bool.and_eq_true, decide_eq_true_eq] at h
  omega
theorem halves_len (due : List Int) (size : Int) : (halves due size).length = (2 * size - 1).toNat := by unfold halves; rw [List.length_map, rng_length]

theorem col_block {row column picks : List Int} (hL : D.fn "median_low" = some (aL, fLow)) (hH : D.fn "median_high" = some (aH, fHigh)) (hM : D.fn "median" = some (aM, fMed)) (hQ : D.fn "quantiles" = some (aQ, fQ)) (ok : okCol row column picks = true) (P : Addr → Prop) :
    Ret prog w D (n + 1) fCol.scope P (colG0 row column picks) [] fCol.body rBool true := by
  unfold okCol at ok
  simp only [Bool.and_eq_true, decide_eq_true_eq, List.all_eq_true] at ok
  obtain ⟨⟨⟨⟨⟨⟨⟨⟨⟨⟨⟨⟨⟨h1, h2⟩, h3⟩, h4⟩, h5⟩, h6⟩, h7⟩, h8⟩, h9⟩, h10⟩, h11⟩, h12⟩, h13⟩, h14⟩ := ok
  have e8 := (eqI_eq h8).symm
  have e9 := (eqI_eq h9).symm
  have e10 := eqI_eq h10
  have e11 := eqI_eq h11
  generalize hdue : pick picks (some 2) none none = due at *
  -- size, kept, due
  refine Ret.step (Γ' := colG1 row column picks) (Ex.tuple (bs := [⟨"size", rInt, (column.length : Int)⟩, ⟨"kept", rList rInt, column⟩, ⟨"due", rList rInt, pick picks (some 2) none none⟩]) (xs := [(_, _), (_, _), (_, _)]) Seen.self
    ⟨Ev.len Ev.var (by omega), Ev.cast (Ev.slice (lo := none) (hi := none) (st := none) Ev.var trivial trivial trivial (by decide) (by rw [sizeLine_eq]; omega) (fun _ _ => rfl)) e9,
      Ev.slice (lo := some 2) (hi := none) (st := none) Ev.var Ev.int trivial trivial (by decide) (by rw [sizeLine_eq]; omega) (fun _ _ => rfl), trivial⟩
    (fun b hb => ?_) rfl (by decide) (by decide) (by decide) (by decide) (fun b hb => ?_)) ?_
  · simp only [List.mem_cons, List.not_mem_nil, or_false] at hb
    rcases hb with rfl | rfl | rfl
    · exact solid_int
    · exact solid_lint
    · exact solid_lint
  · simp only [colG1, List.mem_cons, List.not_mem_nil, or_false] at hb ⊢
    rcases hb with rfl | rfl | rfl | rfl | rfl | rfl
    · exact .inl (.inl rfl)
    · exact .inl (.inr (.inl rfl))
    · exact .inl (.inr (.inr rfl))
    · exact .inr ⟨.inl rfl, by dsimp only; decide⟩
    · exact .inr ⟨.inr (.inl rfl), by dsimp only; decide⟩
    · exact .inr ⟨.inr (.inr rfl), by dsimp only; decide⟩
  -- told, middle
  obtain ⟨β, rm, ym, hmid, sm, hmc⟩ := mid_call (prog := prog) (w := w) (n := n) hM (show 0 < column.length by omega) (by omega) (fun c => by
    rw [if_neg (by omega)] at h12
    simp only [Bool.and_eq_true, decide_eq_true_eq] at h12
    exact h12)
  refine Ret.step (Γ' := ⟨"told", rList rInt, [medLow column, medHigh column]⟩ :: ⟨"middle", rm, ym⟩ :: colG1 row column picks) (Ex.tuple (bs := [⟨"told", rList rInt, [medLow column, medHigh column]⟩, ⟨"middle", rm, ym⟩]) (xs := [(_, _), (_, _)]) Seen.self
    ⟨Ev.list ⟨Ev.call1 hL Ev.var (low_call hL (by omega) (by omega)), Ev.call1 hH Ev.var (high_call hH (by omega) (by omega)), trivial⟩ (by decide), Ev.call1 hM Ev.var (hmc P), trivial⟩
    (fun b hb => ?_) rfl (by decide) (by decide) (by decide) (by decide) (fun b hb => ?_)) ?_
  · simp only [List.mem_cons, List.not_mem_nil, or_false] at hb
    rcases hb with rfl | rfl
    · exact solid_lint
    · exact sm
  · rcases List.mem_cons.mp hb with rfl | hb
    · exact .inl (.head _)
    rcases List.mem_cons.mp hb with rfl | hb
    · exact .inl (.tail _ (.head _))
    refine .inr ⟨hb, ?_⟩
    simp only [colG1, List.mem_cons, List.not_mem_nil, or_false] at hb
    rcases hb with rfl | rfl | rfl | rfl | rfl | rfl <;> (dsimp only; decide)
  refine Ret.step (Ex.ifNot Seen.self ?_) ?_
  · exact mid_test hmid medLow_odd rfl rfl e8 h4 (.head _) (.tail _ (.head _)) (.tail _ (.tail _ (.head _))) (.tail _ (.tail _ (.tail _ (.tail _ (.tail _ (.tail _ (.tail _ (.head _)))))))) (by decide) (by decide) (by decide)
  -- numbers
  refine Ret.step (Γ' := ⟨"numbers", rList rInt, column.map (colNum row)⟩ :: ⟨"told", rList rInt, [medLow column, medHigh column]⟩ :: ⟨"middle", rm, ym⟩ :: colG1 row column picks)
    (Ex.assignComp (r' := rInt) (ys := column.map (colNum row)) Seen.self (CompRun.cast (run1 (r := rInt) (xs := column) (p := fun _ => true) (f := colNum row) (Δ := fun x => [⟨"place", rInt, x⟩]) (Γc := [⟨"row", rRoot rInt, row⟩])
      (Ev.seq Ev.var) (by decide) caught solid_int (Tgt.name (by decide) fresh_name) (fun Pin x hx => .inl ⟨rfl, rfl⟩) (fun Pin x hx _ => Ev.idxC h3 Ev.var Ev.var (h5 x hx)) (by rw [sizeLine_eq]; omega)) (by rw [List.filter_eq_self.mpr fun _ _ => rfl])) solid_int (by decide) grow) ?_
  have hnl : (column.map (colNum row)).length = column.length := List.length_map _
  refine Ret.step (Ex.ifNot Seen.self (Et.cast (Et.cmp (Ev.root (Ev.list (xs := [medHigh (column.map (colNum row)), medLow (column.map (colNum row))]) ⟨Ev.call1 hH (Ev.root Ev.var) (high_call hH (by omega) (by omega)), Ev.call1 hL (Ev.root Ev.var) (low_call hL (by omega) (by omega)), trivial⟩ (by decide)))
    (Ev.root (Ev.compAll (r := rInt) (r' := rInt) (xs := [medLow column, medHigh column]) (f := colNum row) (Δ := fun x => [⟨"place", rInt, x⟩]) (Γc := [⟨"row", rRoot rInt, row⟩]) (Ev.seqL Ev.var) caught solid_int (Tgt.name (by decide) fresh_name) (fun Pin x hx => Ev.idxC h3 Ev.var Ev.var ?_) (by simp))) (op_neL eqR_int _ _)) ?_)) ?_
  · simp only [List.mem_cons, List.not_mem_nil, or_false] at hx
    rcases hx with rfl | rfl
    · exact h6
    · exact h7
  · show (!leq _ _ [colNum row (medLow column), colNum row (medHigh column)]) = false
    rw [e11, leq_rfl]; rfl
  -- alone, cuts
  generalize hx0 : column.getD 0 0 = x0 at e10
  have hal : ∀ P Γ, (⟨"column", rRoot rInt, column⟩ : Bnd) ∈ Γ → ∀ {p1 p2 p3 p4 p5 p6 : Pos}, Ev prog w D (n + 1) fCol.scope Γ P (.Call (.Name "quantiles" p1) [.Subscript (.Name "column" p2) (.Slice none (some (.Constant (.int 1) 0 p3)) none p4) p5] [] p6) (rList rInt) [x0, x0, x0] := fun P Γ hm {p1 p2 p3 p4 p5 p6} =>
    Ev.call1 hQ (Ev.cast (Ev.root (Ev.slice (lo := none) (hi := some 1) (st := none) (Ev.var hm) trivial Ev.int trivial (by decide) (by rw [sizeLine_eq]; omega) (fun _ _ => rfl))) e10) (q_call0 hQ fun P => q_single (by decide) (by decide))
  have hcol3 : ∀ {Γ : List Bnd} {P : Addr → Prop} {p2 p3 p4 p5 p6 p7 : Pos}, (⟨"column", rRoot rInt, column⟩ : Bnd) ∈ Γ → Ev prog w D (n + 1) fCol.scope Γ P (.BinOp (.Subscript (.Name "column" p2) (.Slice none (some (.Constant (.int 1) 0 p3)) none p4) p5) .Mult (.Constant (.int 3) 0 p6) p7) (rList rInt) [x0, x0, x0] := fun {Γ P p2 p3 p4 p5 p6 p7} hm =>
    Ev.cast (Ev.bin (Ev.cast (Ev.root (Ev.slice (lo := none) (hi := some 1) (st := none) (Ev.var hm) trivial Ev.int trivial (by decide) (by rw [sizeLine_eq]; omega) (fun _ _ => rfl))) e10) Ev.int (op_mulL rInt [x0] 3 (by decide) (by decide) (show 1 * 3 ≤ 2 ^ 24 by decide))) rfl
  have htest : ∀ {Γ : List Bnd} {P : Addr → Prop} {p1 p2 p3 p4 p5 p6 p7 p8 p9 p10 p11 p12 p13 p14 p15 p16 p17 p18 : Pos} {sc' : Scope}, (⟨"column", rRoot rInt, column⟩ : Bnd) ∈ Γ → (⟨"alone", rList rInt, [x0, x0, x0]⟩ : Bnd) ∈ Γ →
      Fits fCol.scope sc' → Caught Γ sc' [] → sc'.names.lookup ("cut" : Str) = some .local → sc'.names.lookup ("isinstance" : Str) = some .globalImplicit → sc'.names.lookup ("float" : Str) = some .globalImplicit →
      Et prog w D (n + 1) fCol.scope Γ P (.BoolOp .Or [.Compare (.Name "alone" p1) [.NotEq] [.BinOp (.Subscript (.Name "column" p2) (.Slice none (some (.Constant (.int 1) 0 p3)) none p4) p5) .Mult (.Constant (.int 3) 0 p6) p7] p8,
        .Compare (.Constant (.bool true) 0 p9) [.In] [.ListComp (.Call (.Name "isinstance" p10) [.Name "cut" p11, .Name "float" p12] [] p13) [⟨.Name "cut" p14, .Name "alone" p15, [], 0⟩] sc' p16] p17] p18) false := by
    intro Γ P p1 p2 p3 p4 p5 p6 p7 p8 p9 p10 p11 p12 p13 p14 p15 p16 p17 p18 sc' m1 m2 hfit hcg hl hi hf
    refine Et.cast (Et.or (Et.cast (y := false) (Et.cmp (Ev.root (Ev.var m2)) (Ev.root (hcol3 m1)) (op_neL eqR_int _ _)) (by rw [leq_rfl]; rfl)) fun _ => Et.cast (y := false) (Et.cmp Ev.bool (Ev.root (Ev.compAll (r := rInt) (r' := rBool) (xs := [x0, x0, x0]) (f := fun _ => false) (Δ := fun x => [⟨"cut", rInt, x⟩]) (Γc := [])
      (Ev.seqL (Ev.var m2)) hcg solid_bool (Tgt.name (.inl hl) fun b hb => (by cases hb)) (fun Pin x hx => Ev.isi (by decide) (Ev.var (.head _)) (isi_int _) hi hf) (show 3 ≤ 1000 by decide) hfit)) (op_in eqR_bool fun_bool _ _)) (by rfl)) rfl
  by_cases c1 : column.length = 1
  · rw [if_pos c1] at h14
    have hc : column = [x0] := by
      match column, c1, hx0 with
      | [y], _, h => rw [← h]; rfl
    have e14 := eqI_eq h14
    refine Ret.step (Γ' := ⟨"alone", rList rInt, [x0, x0, x0]⟩ :: ⟨"cuts", rList rInt, [x0, x0, x0]⟩ :: ⟨"numbers", rList rInt, column.map (colNum row)⟩ :: ⟨"told", rList rInt, [medLow column, medHigh column]⟩ :: ⟨"middle", rm, ym⟩ :: colG1 row column picks) (Ex.tuple (bs := [⟨"alone", rList rInt, [x0, x0, x0]⟩, ⟨"cuts", rList rInt, [x0, x0, x0]⟩]) (xs := [(_, _), (_, _)]) Seen.self
      ⟨hal _ _ (by repeat (first | exact List.Mem.head _ | apply List.Mem.tail)), Ev.callK1 hQ (Ev.cast Ev.var hc) (Ev.cast (x := 2 * (column.length : Int) + 2) (y := 4) (Ev.bin (Ev.bin Ev.int Ev.var (op_mul 2 _ (mulOk' (by decide) (by decide)))) Ev.int (op_add _ _)) (by rw [c1]; rfl)) (q_callN hQ fun P => q_single (by decide) (by decide)), trivial⟩
      (fun b hb => ?_) rfl (by decide) (by decide) (by decide) (by decide) (fun b hb => ?_)) ?_
    · simp only [List.mem_cons, List.not_mem_nil, or_false] at hb
      rcases hb with rfl | rfl <;> exact solid_lint
    · rcases List.mem_cons.mp hb with rfl | hb
      · exact .inl (.head _)
      rcases List.mem_cons.mp hb with rfl | hb
      · exact .inl (.tail _ (.head _))
      refine .inr ⟨hb, ?_⟩
      simp only [colG1, List.mem_cons, List.not_mem_nil, or_false] at hb
      rcases hb with rfl | rfl | rfl | rfl | rfl | rfl | rfl | rfl | rfl <;> (dsimp only; decide)
    refine Ret.step (Ex.ifNot Seen.self (htest (by repeat (first | exact List.Mem.head _ | apply List.Mem.tail)) (.head _) (by decide) caught (by decide) (by decide) (by decide))) ?_
    refine Ret.ifRet Seen.self (Et.cast (Et.cmp Ev.var Ev.int (op_eq _ _)) (by rw [c1]; rfl)) (Ret.ret Seen.self (Ev.andT (Ev.cast (Ev.cmp (Ev.root Ev.var) (Ev.root (Ev.bin (Ev.root Ev.var) Ev.int (op_mulL rInt _ 3 (by decide) (by decide) ?_))) (op_eqL eqR_int _ _)) ?_) (Ev.cast (Ev.cmp Ev.var (Ev.root Ev.var) (op_eqL eqR_int _ _)) (leq_rfl _))))
    · rw [hdue]; show due.length * 3 ≤ _; omega
    · rw [hdue, show ((3 : Int)).toNat = 3 from rfl, ← e14, hc]; exact leq_rfl _
  · rw [if_neg c1] at h14
    generalize hsz : (column.length : Int) = size at h14 ⊢
    have hsn : size.toNat = column.length := by omega
    have hdl : (isort column).length = column.length := isort_length column
    unfold okCol2 at h14
    simp only [Bool.and_eq_true, decide_eq_true_eq] at h14
    obtain ⟨⟨⟨⟨k1, k2⟩, k3⟩, k4⟩, k5⟩ := h14
    have e4 := eqI_eq k4
    have e5 := eqI_eq k5
    have hcuts := fun P => cuts_call (prog := prog) (w := w) (n := n) (P := P) hQ (show 2 ≤ column.length by omega) h2 (by rw [hsz]; exact k2)
    have hinner := fun P => inner_call (prog := prog) (w := w) (n := n) (P := P) hQ (show 2 ≤ column.length by omega) h2 (fun x hx => inN_bd (h5 x hx) h3) (by rw [hsz, ← hsn]; exact k3)
    rw [hsz] at hcuts hinner
    generalize hCS : cutsS (isort column) size = CS at e5 hcuts
    generalize hIS : innS (isort column) size = IS at e4 hinner
    generalize hHV : halves due size = HV at e4 e5
    have hHl : HV.length = (2 * size - 1).toNat := by rw [← hHV, halves_len]
    have hCl : CS.length = (2 * size + 2 - 1).toNat := by rw [← hCS]; unfold cutsS; rw [List.length_map, rng_length]
    have hIl : IS.length = (2 * size - 2 - 1).toNat := by rw [← hIS]; unfold innS; rw [List.length_map, rng_length]
    unfold colG1
    rw [hsz, hdue]
    refine Ret.step (Γ' := ⟨"alone", rList rInt, [x0, x0, x0]⟩ :: ⟨"cuts", rList rHalf, CS⟩ :: ⟨"numbers", rList rInt, column.map (colNum row)⟩ :: ⟨"told", rList rInt, [medLow column, medHigh column]⟩ :: ⟨"middle", rm, ym⟩ :: ⟨"size", rInt, size⟩ :: ⟨"kept", rList rInt, column⟩ :: ⟨"due", rList rInt, due⟩ :: colG0 row column picks) (Ex.tuple (bs := [⟨"alone", rList rInt, [x0, x0, x0]⟩, ⟨"cuts", rList rHalf, CS⟩]) (xs := [(_, _), (_, _)]) Seen.self
      ⟨hal _ _ (by repeat (first | exact List.Mem.head _ | apply List.Mem.tail)), Ev.callK1 hQ Ev.var (Ev.bin (Ev.bin Ev.int Ev.var (op_mul 2 _ (mulOk' (by decide) (by decide)))) Ev.int (op_add _ _)) (hcuts P), trivial⟩
      (fun b hb => ?_) rfl (by decide) (by decide) (by decide) (by decide) (fun b hb => ?_)) ?_
    · simp only [List.mem_cons, List.not_mem_nil, or_false] at hb
      rcases hb with rfl | rfl
      · exact solid_lint
      · exact solid_list solid_half
    · rcases List.mem_cons.mp hb with rfl | hb
      · exact .inl (.head _)
      rcases List.mem_cons.mp hb with rfl | hb
      · exact .inl (.tail _ (.head _))
      refine .inr ⟨hb, ?_⟩
      simp only [colG0, List.mem_cons, List.not_mem_nil, or_false] at hb
      rcases hb with rfl | rfl | rfl | rfl | rfl | rfl | rfl | rfl | rfl <;> (dsimp only; decide)
    refine Ret.step (Ex.ifNot Seen.self (htest (by repeat (first | exact List.Mem.head _ | apply List.Mem.tail)) (.head _) (by decide) caught (by decide) (by decide) (by decide))) ?_
    refine Ret.step (Ex.ifNot Seen.self (Et.cast (Et.cmp Ev.var Ev.int (op_eq _ _)) (by rw [beq_eq_false_iff_ne]; omega))) ?_
    -- half
    refine Ret.step (Γ' := ⟨"half", rList rInt, HV⟩ :: ⟨"cuts", rList rHalf, CS⟩ :: ⟨"size", rInt, size⟩ :: ⟨"kept", rList rInt, column⟩ :: ⟨"column", rRoot rInt, column⟩ :: [])
      (Ex.assignComp (r' := rInt) (ys := HV) Seen.self (CompRun.cast (run1 (r := rInt) (xs := rng 0 (2 * size - 1).toNat) (p := fun _ => true) (f := halfAt due) (Δ := fun x => [⟨"turn", rInt, x⟩]) (Γc := [⟨"due", rList rInt, due⟩])
        (Ev.rseq (Ev.range1 (Ev.bin (Ev.bin Ev.int Ev.var (op_mul 2 _ (mulOk' (by decide) (by decide)))) Ev.int (op_sub _ _)) (by omega) (by omega))) (by decide) caught solid_int (Tgt.name (by decide) fresh_name) (fun Pin x hx => .inl ⟨rfl, rfl⟩) (fun Pin x hx _ => ?_) (by rw [sizeLine_eq, rng_length]; omega)) (by rw [List.filter_eq_self.mpr fun _ _ => rfl, ← hHV]; rfl)) solid_int (by decide) (fun c hc => ?_)) ?_
    · obtain ⟨x0', x1'⟩ := rng_mem' hx
      have q1 : x.fdiv 2 = x / 2 := Int.fdiv_eq_ediv_of_nonneg _ (by decide)
      have q2 : (x + 1).fdiv 2 = (x + 1) / 2 := Int.fdiv_eq_ediv_of_nonneg _ (by decide)
      exact Ev.bin (Ev.idx (y := due.getD (x.fdiv 2).toNat 0) (Ev.root Ev.var) (Ev.bin Ev.var Ev.int (op_floordiv _ _ (by decide) (PyProof.noPylong_small (by decide)))) (by omega) (by omega) (getD_at (by omega)))
        (Ev.idx (y := due.getD ((x + 1).fdiv 2).toNat 0) (Ev.root Ev.var) (Ev.bin (Ev.bin Ev.var Ev.int (op_add _ _)) Ev.int (op_floordiv _ _ (by decide) (PyProof.noPylong_small (by decide)))) (by omega) (by omega) (getD_at (by omega))) (op_add _ _)
    · simp only [List.mem_cons, List.not_mem_nil, or_false] at hc
      rcases hc with rfl | rfl | rfl | rfl | rfl
      · exact .inl rfl
      all_goals exact .inr ⟨by repeat (first | exact List.Mem.head _ | apply List.Mem.tail), by dsimp only; decide⟩
    -- inner
    refine Ret.step (Γ' := ⟨"inner", rList rHalf, IS⟩ :: ⟨"half", rList rInt, HV⟩ :: ⟨"cuts", rList rHalf, CS⟩ :: ⟨"size", rInt, size⟩ :: ⟨"kept", rList rInt, column⟩ :: ⟨"column", rRoot rInt, column⟩ :: [])
      (Ex.assign (r := rList rHalf) (y := IS) Seen.self (Ev.callK2 hQ Ev.var (Ev.bin (Ev.bin Ev.int Ev.var (op_mul 2 _ (mulOk' (by decide) (by decide)))) Ev.int (op_sub _ _)) Ev.str (hinner P)) (solid_list solid_half) (by decide) grow) ?_
    refine Ret.step (Ex.ifNot Seen.self (Et.or3 (Et.cast (Et.not (Et.val (Ev.isi (by decide) (Ev.root Ev.var) (isi_list _)))) rfl) (Et.cast (Et.not (Et.val (Ev.isi (by decide) (Ev.root Ev.var) (isi_list _)))) rfl) ?_)) ?_
    · refine Et.cast (Et.cmp (Ev.root (Ev.compAll (r := rHalf) (r' := rFI) (xs := IS) (f := fun x => x) (Δ := fun x => [⟨"cut", rHalf, x⟩]) (Γc := []) (Ev.seqL Ev.var) caught solid_fi (Tgt.name (by decide) fresh_name) (fun Pin x hx => Ev.bin Ev.int Ev.var (op_mulH x)) (by omega)))
        (Ev.root (Ev.slice (lo := some 1) (hi := some (-1)) (st := none) (Ev.root Ev.var) Ev.int (Ev.cast (Ev.neg Ev.int) (by decide)) trivial (by decide) (by rw [sizeLine_eq]; omega) (fun _ _ => rfl))) (op_neL eqR_fi _ _)) ?_
      rw [List.map_id', ← e4, leq_rfl]; rfl
    refine Ret.step (Ex.ifNot Seen.self (Et.cast (Et.or (Et.cast (y := false) (Et.cmp Ev.bool (Ev.root (Ev.compAll (r := rHalf) (r' := rBool) (xs := CS ++ IS) (f := fun _ => true) (Δ := fun x => [⟨"cut", rHalf, x⟩]) (Γc := [])
      (Ev.seqL (Ev.bin (Ev.root Ev.var) (Ev.root Ev.var) (op_addL rHalf _ _ (by rw [sizeLine_eq]; omega)))) caught solid_bool (Tgt.name (by decide) fresh_name) (fun Pin x hx => Ev.isi (by decide) Ev.var (isi_half _)) (by rw [List.length_append]; omega))) (op_in eqR_bool fun_bool _ _)) (in_true fun x hx => ?_))
      fun _ => Et.cast (y := false) (Et.cmp Ev.var (Ev.root Ev.var) (op_neL eqR_int _ _)) (by rw [leq_rfl]; rfl)) rfl)) ?_
    · obtain ⟨_, _, e⟩ := List.mem_map.mp hx; exact e.symm
    refine Ret.ret Seen.self (Ev.cast (Ev.cmp (Ev.root (Ev.compAll (r := rHalf) (r' := rFI) (xs := CS) (f := fun x => x) (Δ := fun x => [⟨"cut", rHalf, x⟩]) (Γc := []) (Ev.seqL Ev.var) caught solid_fi (Tgt.name (by decide) fresh_name) (fun Pin x hx => Ev.bin Ev.int Ev.var (op_mulH x)) (by omega)))
      (Ev.root (Ev.bin (Ev.root (Ev.bin (Ev.root (Ev.list (xs := [2 * HV.getD 0 0 - HV.getD 1 0]) ⟨Ev.bin (Ev.bin Ev.int (Ev.idx (k := 0) (Ev.root Ev.var) Ev.int (by decide) (by decide) (getD_at (by omega))) (op_mul 2 _ (mulOk' (by decide) (by decide)))) (Ev.idx (k := 1) (Ev.root Ev.var) Ev.int (by decide) (by decide) (getD_at (by omega))) (op_sub _ _), trivial⟩ (by decide))) (Ev.root Ev.var) (op_addL rInt _ _ ?_)))
        (Ev.root (Ev.list (xs := [2 * HV.getD (HV.length - 1) 0 - HV.getD (HV.length - 2) 0]) ⟨Ev.bin (Ev.bin Ev.int (Ev.idxN (k := -1) (Ev.root Ev.var) (Ev.cast (Ev.neg Ev.int) (by decide)) (by decide) (by omega) (by decide) ?_) (op_mul 2 _ (mulOk' (by decide) (by decide)))) (Ev.idxN (k := -2) (Ev.root Ev.var) (Ev.cast (Ev.neg Ev.int) (by decide)) (by decide) (by omega) (by decide) ?_) (op_sub _ _), trivial⟩ (by decide))) (op_addL rInt _ _ ?_))) (op_eqL eqR_fi _ _)) ?_)
    · rw [sizeLine_eq]; simp only [List.length_cons, List.length_nil]; omega
    · rw [show (-1 + (HV.length : Int)).toNat = HV.length - 1 by omega]; exact getD_at (by omega)
    · rw [show (-2 + (HV.length : Int)).toNat = HV.length - 2 by omega]; exact getD_at (by omega)
    · rw [sizeLine_eq]; simp only [List.length_append, List.length_cons, List.length_nil]; omega
    · rw [List.map_id', e5]; exact leq_rfl _
theorem col_call {nm : Str} {a : Addr} {row column picks : List Int} (hx : D.fn nm = some (a, fCol)) (hL : D.fn "median_low" = some (aL, fLow)) (hH : D.fn "median_high" = some (aH, fHigh)) (hM : D.fn "median" = some (aM, fMed)) (hQ : D.fn "quantiles" = some (aQ, fQ)) (ok : okCol row column picks = true) :
    CallsTo prog w D (n + 2) P (.ref a) [⟨rRoot rInt, row⟩, ⟨rRoot rInt, column⟩, ⟨rRoot rInt, picks⟩] [] [] rBool true :=
  ret_call hx fits_col (pos_args rfl rfl (by decide) (by decide)) fun P => col_block hL hH hM hQ ok P
end
end Mine
end

section
open PySem PySem.W
set_option Elab.async false
set_option linter.unusedVariables false
set_option linter.unusedSectionVars false
set_option maxRecDepth 10000
set_option maxHeartbeats 4000000
open PyProof.Rows
namespace Mine
variable [Lim]
/-- the heap with this object at T -/
noncomputable def withTab (g : Heap) (T : Addr) (ps : Array Value) : Heap := g.update T fun _ => tabObj ps
theorem withTab_self {g : Heap} {T : Addr} {ps : Array Value} (h : T < g.objs.size) : (withTab g T ps).get? T = some (tabObj ps) := by
  unfold withTab
  obtain ⟨objs, l⟩ := g
  unfold Heap.update Heap.get?
  dsimp only at h ⊢
  rw [Array.getElem?_modify, if_pos rfl, Array.getElem?_eq_getElem h]
  rfl
theorem withTab_ne {g : Heap} {T b : Addr} {ps : Array Value} (h : b ≠ T) : (withTab g T ps).get? b = g.get? b := (Heap.SameBut.update g T _).2 b h
theorem keep_withTab {g : Heap} {T : Addr} {ps : Array Value} (h : g.get? T = none) : Keep g (withTab g T ps) := .of fun b o e => (withTab_ne fun q => by rw [q, h] at e; cases e).trans e
theorem tab_not_kd {ps : Array Value} (h : ∀ q t, ps[1]? ≠ some (.str q t)) : ¬ Kd (tabObj ps) := fun k => by
  unfold Kd at k
  obtain ⟨q, t, e⟩ := k
  exact h q t e
theorem tab0_not_kd : ¬ Kd (tabObj #[]) := tab_not_kd fun q t e => by cases e
/-- hidden at T -/
noncomputable abbrev hid (h : Heap) (T : Addr) : Heap := hideAll h [T]
theorem hid_none {h : Heap} {T : Addr} : (hid h T).get? T = none := hideAll_none _ (.head _)
theorem hid_ne {h : Heap} {T b : Addr} {o : Obj} (e : h.get? b = some o) (hb : b ≠ T) : (hid h T).get? b = some o := hideAll_get _ e fun q => hb (List.mem_singleton.mp q)
theorem of_hid {h : Heap} {T b : Addr} {o : Obj} (e : (hid h T).get? b = some o) : h.get? b = some o := of_hideAll _ e
theorem hid_keep {h : Heap} {T : Addr} : Keep (hid h T) h := .of fun _ _ e => of_hid e
theorem hid_of {h : Heap} {T b : Addr} (e : h.get? b = none) : (hid h T).get? b = none := by
  cases q : (hid h T).get? b with
  | none => rfl
  | some o => rw [of_hid q] at e; cases e

/-- `row` caught from now on -/
noncomputable def freeRow (sc : Scope) : Scope := { sc with names := sc.names.map fun p => if p.1 == ("row" : Str) then (p.1, NameKind.free) else p }
theorem freeRow_lookup (sc : Scope) (x : Str) : (freeRow sc).names.lookup x = if x = "row" then (sc.names.lookup x).map fun _ => NameKind.free else sc.names.lookup x := by
  unfold freeRow
  dsimp only
  induction sc.names with
  | nil => simp
  | cons p l ih =>
    rw [List.map_cons]
    by_cases h : p.1 = "row"
    · rw [if_pos (by simpa using h)]
      by_cases hx : x = "row"
      · rw [if_pos hx, List.lookup_cons, List.lookup_cons, hx, h]; simp
      · have : (x == p.1) = false := by rw [beq_eq_false_iff_ne, h]; exact hx
        rw [List.lookup_cons, List.lookup_cons, this, ih]
    · rw [if_neg (by simpa using h), List.lookup_cons, List.lookup_cons, ih]
      by_cases hx : x = "row"
      · have : (x == p.1) = false := by rw [beq_eq_false_iff_ne, hx]; exact fun q => h q.symm
        rw [this]
      · rw [if_neg hx, if_neg hx]
section
variable {prog : Program} {w : World} {D : Wd} {g g' : Heap} {sc : Scope} {env : Env} {P P' : Addr → Prop} {Γ Γ' Θ : List Bnd} {M : List Mu} {n : Nat} {A : Around} {α β γ : Type} {r : Rel α} {r' : Rel β} {s : Shared} {E : Value → Shared → Prop}
/-- the elder heap told anew -/
theorem St.ghost (t : St A D g sc env P Γ M s) (ok : D.Ok g') (k : Keep g' s.heap) (own : ∀ b, Own sc env b → g'.get? b = none) (mus : ∀ m ∈ M, g'.get? m.a = none) (sr : ∀ b ∈ Γ, Solid b.r) : St A D g' sc env P Γ M s :=
  ⟨ok, k, t.fm, own, t.pown, t.free, fun b hb => by
    obtain ⟨v, a, c⟩ := t.vars b hb
    exact ⟨v, a, .inr ⟨sr b hb, c.elim (fun e => b.r.keep t.keep e) fun e => e.2⟩⟩, fun m hm => by
    obtain ⟨a, _, c⟩ := t.mus m hm
    exact ⟨a, mus m hm, c⟩, t.dist⟩
theorem freeRow_ne {x : Str} {k : NameKind} (h : (freeRow sc).names.lookup x = some k) (hk : k ≠ NameKind.free) : x ≠ "row" ∧ sc.names.lookup x = some k := by
  rw [freeRow_lookup] at h
  by_cases hx : x = "row"
  · rw [if_pos hx] at h
    cases q : sc.names.lookup x with
    | none => rw [q] at h; cases h
    | some k' => rw [q] at h; cases h; exact absurd rfl hk
  · rw [if_neg hx] at h; exact ⟨hx, h⟩
theorem envOk_freeRow (hE : EnvOk sc env) (hr : sc.names.lookup ("row" : Str) = some .cell) : EnvOk (freeRow sc) env := by
  refine ⟨hE.kind, hE.glob, hE.bi, fun x h => hE.loc x (freeRow_ne h (by decide)).2, fun x h => hE.cel x (freeRow_ne h (by decide)).2, fun x h => ?_, fun x h => hE.gl x (freeRow_ne h (by decide)).2, hE.apart⟩
  by_cases hx : x = "row"
  · subst hx
    obtain ⟨a, b⟩ := hE.cel _ hr
    exact ⟨.inl a, b⟩
  · rw [freeRow_lookup, if_neg hx] at h
    exact hE.fre x h
theorem own_freeRow {b : Addr} (o : Own (freeRow sc) env b) : Own sc env b := o.imp id fun ⟨x, hx, hc⟩ => ⟨x, (freeRow_ne hx (by decide)).2, hc⟩
theorem own_freeRow_ne (hE : EnvOk sc env) {c b : Addr} (hc : env.cells.lookup ("row" : Str) = some c) (hcell : ∃ v, s.heap.IsCell c v) (hl : ∃ m, s.heap.Ns env.locals m) (o : Own (freeRow sc) env b) : b ≠ c := by
  rintro rfl
  rcases o with rfl | ⟨x, hx, hxc⟩
  · obtain ⟨v, o, ho, hd⟩ := hcell
    obtain ⟨m, o', es, ep, ho', hd', _⟩ := hl
    rw [ho] at ho'; cases ho'; rw [hd] at hd'; cases hd'
  · exact (freeRow_ne hx (by decide)).1 (hE.apart _ _ _ hxc hc)

/-- the lambda is made -/
theorem lam_make {row : List Int} {cN T : Addr} {pos : Pos} {Q : Value → Shared → Prop} (hE : EnvOk sc env) (t : St A D g sc env P Γ [] s) (hr : sc.names.lookup ("row" : Str) = some .cell) (hm : (⟨"row", rList rInt, row⟩ : Bnd) ∈ Γ) (hsolid : ∀ b ∈ Γ, Solid b.r)
    (hcode : env.code = .ref cN) (C : CodeHd s.heap cN T) (hT : s.heap.get? T = some (tabObj #[])) (hgT : g.get? T = none) (hsz : T < g.objs.size) (hb : s.heap.BuiltinsAt D.mg T)
    (h : ∀ v s' ps P', Sh s s' → (∀ b, P b → P' b) → (∀ b, P' b → P b ∨ g.get? b = none) → St A D (withTab g T ps) (freeRow sc) env P' Γ [] s' → rKey.is P' s'.heap v row → Q v s') :
    wpAny (model prog w) A (eval (.Lambda lamParams lamBody lamScope pos) env) Q E s := by
  obtain ⟨rv, hvar, hheld⟩ := t.vars _ hm
  have hrow : (rList rInt).is P s.heap rv row := hheld.elim (fun e => (rList rInt).keep t.keep e) fun e => e.2
  obtain ⟨hk, c, hc⟩ := hE.cel _ hr
  have hcell : s.heap.IsCell c (some rv) := by
    rcases hvar with ⟨a, _⟩ | ⟨_, c', hc', hcc⟩
    · rw [hk] at a; cases a
    · rw [hc] at hc'; cases hc'; exact hcc
  have hclos : closureFor lamScope env = pure [(("row" : Str), c)] := by
    rw [closureFor_ok fun x hx => by rw [lam_free x hx]; exact ⟨c, hc⟩]
    have : closOf env lamScope.names [] = [(("row" : Str), (env.cells.lookup ("row" : Str)).getD 0)] := rfl
    rw [this, hc]; rfl
  have hgs := t.world.g
  have hgP : mainGlobals ≠ T := fun q => by
    obtain ⟨o, es, ep, e, hd, _⟩ := hgs
    rw [q, hT] at e; cases e; cases hd
  refine kla_eval rfl (kla_makeFunction (mg := D.mg) hclos hE.glob hgs hcode C hT trivial rfl hgP hb fun c' ctv h' tk hx hge hlt hrec htb => ?_)
  generalize hps : (#[] ++ #[rawInt pos.line, rawInt pos.col, Value.ref c'] : Array Value) = ps at htb
  generalize hob : kla_obj "<lambda>" (env.qual ++ "<lambda>") lamParams lamBody lamScope [(("row" : Str), c)] ((D.mg "__name__").getD .none) c' ctv = ob
  have hpush : ∀ b o, h'.get? b = some o → (h'.push ob).get? b = some o := fun b o e => Heap.get?_push_of_some _ e
  have old : ∀ b o, b ≠ T → s.heap.get? b = some o → (h'.push ob).get? b = some o := fun b o hb e => hpush b o (hx b o hb e)
  have none_of : ∀ b, s.heap.objs.size ≤ b → s.heap.get? b = none := fun b hb => by
    cases q : s.heap.get? b with
    | none => rfl
    | some o => exact absurd (Heap.lt_size q) (Nat.not_lt.mpr hb)
  have newP : ∀ b, s.heap.objs.size ≤ b → P b := fun b hb => by
    apply Classical.byContradiction
    intro hn
    obtain ⟨o, ho⟩ := t.free.at b hn
    rw [none_of b hb] at ho; cases ho
  have hPT : P T := by
    apply Classical.byContradiction
    intro hn
    obtain ⟨o, ho, nf⟩ := t.free.ta T hn
    rw [hT] at ho; cases ho
    exact nf _ rfl
  have nsT : ∀ {L m}, s.heap.Ns L m → L ≠ T := fun {L m} hn q => by
    obtain ⟨o, es, ep, ho, hd, _⟩ := hn
    rw [q, hT] at ho; cases ho; cases hd
  have cellT : ∀ {d v}, s.heap.IsCell d v → d ≠ T := fun {d v} hn q => by
    obtain ⟨o, ho, hd⟩ := hn
    rw [q, hT] at ho; cases ho; cases hd
  have nsK : ∀ {L m}, s.heap.Ns L m → (h'.push ob).Ns L m := fun {L m} hn => by
    have ne := nsT hn
    obtain ⟨o, es, ep, ho, r⟩ := hn
    exact ⟨o, es, ep, old _ _ ne ho, r⟩
  have cellK : ∀ {d v}, s.heap.IsCell d v → (h'.push ob).IsCell d v := fun {d v} hn => by
    have ne := cellT hn
    obtain ⟨o, ho, r⟩ := hn
    exact ⟨o, old _ _ ne ho, r⟩
  have ownT : ∀ b, Own sc env b → b ≠ T := fun b o q => by
    obtain ⟨x, hx, nf⟩ := t.fm.ta o
    rw [q, hT] at hx; cases hx
    exact nf _ rfl
  have ownc : Own sc env c := .inr ⟨_, hr, hc⟩
  have ncell : ∀ {L m}, s.heap.Ns L m → L ≠ c := fun {L m} hn q => by
    obtain ⟨o, es, ep, ho, hd, _⟩ := hn
    obtain ⟨o', ho', hd'⟩ := hcell
    rw [q, ho'] at ho; cases ho; rw [hd] at hd'; cases hd'
  have solidK : ∀ {α : Type} {r : Rel α} {v x}, Solid r → r.is P s.heap v x → r.is (fun b => P b ∨ b = c) (h'.push ob) v x := fun sr e => sr (fun b o p kd e => ⟨.inl p, old b o (fun q => by
    rw [q, hT] at e; cases e; exact tab0_not_kd kd) e⟩) e
  refine h _ _ ps (fun b => P b ∨ b = c) ⟨_, _, rfl⟩ (fun b p => .inl p) (fun b p => p.elim .inl fun (q : b = c) => .inr (q ▸ t.own c ownc)) ⟨t.ok.keep (keep_withTab hgT), fun b o e => ?_, ⟨?_, fun x d hx hd => ?_⟩, fun b o => ?_, fun b o p => ?_, ⟨fun b hb => ?_, ?_⟩, fun b hb => ?_, fun m hm => (by cases hm), List.nodup_nil⟩ ?_
  · by_cases hb : b = T
    · subst hb
      rw [withTab_self hsz] at e; cases e
      exact .of (hpush _ _ htb)
    · rw [withTab_ne hb] at e
      obtain ⟨sl, e1, e2⟩ := t.keep b o e
      exact ⟨sl, old b _ hb e1, e2⟩
  · obtain ⟨m, hm⟩ := t.fm.ns; exact ⟨m, nsK hm⟩
  · obtain ⟨v, hv⟩ := t.fm.cells x d (freeRow_ne hx (by decide)).2 hd
    exact ⟨v, cellK hv⟩
  · have o' := own_freeRow o
    rw [withTab_ne (ownT b o')]; exact t.own b o'
  · rcases p with p | p
    · exact t.pown b (own_freeRow o) p
    · exact own_freeRow_ne hE hc ⟨_, hcell⟩ t.fm.ns o p
  · have hb' : ¬ P b := fun p => hb (.inl p)
    obtain ⟨o, ho, nf⟩ := t.free.ta b hb'
    exact ⟨o, old b o (fun q => hb' (q ▸ hPT)) ho, nf⟩
  · obtain ⟨l, hl, hq⟩ := t.free.fr
    refine ⟨l, hl, fun e he => ⟨(hq e he).1, ?_⟩⟩
    obtain ⟨L, h1, h2, h3, m, h4⟩ := (hq e he).2
    exact ⟨L, h1, h2, fun p => p.elim h3 (ncell h4), m, nsK h4⟩
  · obtain ⟨v, a, e⟩ := t.vars b hb
    refine ⟨v, ?_, .inr ⟨hsolid b hb, solidK (hsolid b hb) (e.elim (fun e => b.r.keep t.keep e) fun e => e.2)⟩⟩
    rcases a with ⟨a, m, hm, hv⟩ | ⟨a, d, hd, hv⟩
    · exact .inl ⟨a, m, nsK hm, hv⟩
    · exact .inr ⟨a, d, hd, cellK hv⟩
  · refine ⟨h'.objs.size, _, (D.mg "__name__").getD .none, c', ctv, c, rv, rfl, .inl (newP _ (by omega)), .inr rfl, .inl (newP _ hge), ?_, (Keep.of hpush).code hrec, cellK hcell, solidK solid_lint hrow⟩
    rw [← hob]
    exact Heap.get?_push_size _ rfl
end
end Mine
end

section
open PySem PySem.W
set_option Elab.async false
set_option linter.unusedVariables false
set_option linter.unusedSectionVars false
set_option maxRecDepth 10000
set_option maxHeartbeats 4000000
open PyProof.Rows
namespace Mine
variable [Lim]
theorem solid_two {α β : Type} {r : Rel α} {r' : Rel β} (s : Solid r) (s' : Solid r') : Solid (rTwo r r') := fun {P P' h h' v x} k e => by
  obtain ⟨a, i, j, rfl, hp, ⟨o, ho, hc, hd⟩, hi, hj⟩ := e
  have z := k a o hp (let ⟨_, e⟩ := hd; kd_seq e) ho
  exact ⟨a, i, j, rfl, z.1, ⟨o, z.2, hc, hd⟩, s k hi, s' k hj⟩
/-- one of the two searches -/
noncomputable def rAct (aL aR : Addr) : Rel Bool := ⟨fun _ _ v b => v = .ref (if b then aR else aL), fun _ _ e => e⟩
theorem solid_act {aL aR : Addr} : Solid (rAct aL aR) := fun _ e => e
section
variable {prog : Program} {w : World} {D : Wd} {g : Heap} {sc : Scope} {env : Env} {P : Addr → Prop} {Γ Γ' Θ : List Bnd} {M : List Mu} {n : Nat} {A : Around} {α β γ : Type} {r : Rel α} {r' : Rel β} {s : Shared} {E : Value → Shared → Prop}
theorem unpack_list2 {l : Addr} {i j : Value} {Q : List Value → Shared → Prop} (hh : A.handled = none) (ht : s.heap.IsList l #[i, j])
    (hQ : ∀ h', Heap.ExtBut s.heap.objs.size s.heap h' → Q [i, j] { s with heap := h' }) : wpAny (model prog w) A (unpackItems (.ref l) 2 none) Q E s := by
  have hlt : l ≠ s.heap.objs.size := by obtain ⟨o, ho, _⟩ := ht; exact Nat.ne_of_lt (Heap.lt_size ho)
  unfold unpackItems
  refine wpAny_bind ?_
  · unfold notIterableAtAll
    refine wpAny_bind (wpAny_specialOf ht.typeIs F.slot_list_iter.lookup ?_)
    refine wpAny_pure ?_
    simp only [Bool.false_eq_true, if_false]
    refine wpAny_bind (wpAny_holding (wpAny_pyIter_list ht ?_))
    refine wpAny_bind (wpAny_holding ?_)
    show wpAny _ _ (draw (.ref s.heap.objs.size) 2) _ _ _
    have ht0 := ht.push { cls := .type "list_iterator", data := .fields #[.ref l, .int 0 0] }
    show wpAny _ _ (pyNext (.ref s.heap.objs.size) >>= _) _ _ _
    refine wpAny_bind (wpAny_pyNext_list_item (i := 0) (x := i) ⟨_, Heap.get?_push_size _ rfl, rfl, rfl⟩ ht0 rfl fun h₁ hit₁ hs₁ => ?_)
    have ht1 := ht0.extBut hs₁.extBut hlt
    refine wpAny_bind (wpAny_holding ?_)
    show wpAny _ _ (draw (.ref s.heap.objs.size) 1) _ _ _
    show wpAny _ _ (pyNext (.ref s.heap.objs.size) >>= _) _ _ _
    refine wpAny_bind (wpAny_pyNext_list_item (x := j) hit₁ ht1 rfl fun h₂ hit₂ hs₂ => ?_)
    have ht2 := ht1.extBut hs₂.extBut hlt
    refine wpAny_bind (wpAny_holding ?_)
    show wpAny _ _ (pure []) _ _ _
    refine wpAny_pure (wpAny_pure (wpAny_pure ?_))
    rw [if_neg (by simp)]
    refine wpAny_bind (wpAny_holding (wpAny_pyNext_list_end hh hit₂ ht2 (by rfl) fun h₃ he₃ => ?_))
    simp only [Option.isSome_none, Bool.false_eq_true, if_false]
    exact wpAny_pure (hQ h₃ fun b o hb e => he₃ b o hb ((hs₂.2 b hb).trans (hs₁.extBut b o hb (Heap.get?_push_of_some _ e))))
/-- two names, by a list of two -/
theorem Tgt.two {x₁ x₂ : Str} {p₁ p₂ : Pos} {k : Nat} {p : Pos} (sr : Solid r) (sr' : Solid r') (hx₁ : Stor sc x₁) (hx₂ : Stor sc x₂) (hne : x₁ ≠ x₂) (h₁ : ∀ b ∈ Γ, b.name ≠ x₁) (h₂ : ∀ b ∈ Γ, b.name ≠ x₂) :
    Tgt prog w D sc Γ (.Tuple [.Name x₁ p₁, .Name x₂ p₂] k p) (rTwo r r') fun x => [⟨x₁, r, x.1⟩, ⟨x₂, r', x.2⟩] := by
  intro g env P M A n x v s E hL hE t hv
  have hv' : (rTwo r r').is P s.heap v x := hv.elim (fun e => (rTwo r r').keep t.keep e) fun e => e.2
  obtain ⟨a, vi, vj, rfl, hp, hl, hi, hj⟩ := hv'
  rw [arm_assign_Tuple]
  refine wpAny_bind (wpAny_standAt ?_)
  show wpAny _ _ (unpack (.ref a) [(false, assign (.Name x₁ p₁) env), (false, assign (.Name x₂ p₂) env)]) _ _ s
  unfold unpack
  refine wpAny_bind (wpAny_holding (unpack_list2 hL.1 hl fun h' he => ?_))
  have k₁ : Keeps s { s with heap := h' } := ⟨h', s.toks, rfl, .of fun b o e => he b o (Nat.ne_of_lt (Heap.lt_size e)) e⟩
  have t₁ := t.keeps k₁
  refine wpAny_mono (stores_ok (bs := [⟨x₁, r, x.1⟩, ⟨x₂, r', x.2⟩]) (vs := [vi, vj]) hE t₁ ⟨.inr ⟨sr, r.keep (keeps_keep k₁) hi⟩, .inr ⟨sr', r'.keep (keeps_keep k₁) hj⟩, trivial⟩ (fun b hb => ?_) (by simp [hne]) (fun c hc d hd e => ?_) ⟨rfl, fun i f b h1 h2 v s' Q' E' hq => ?_⟩) (fun _ s' q => ⟨q.1 _ fun c hc => ?_, (Chx.keeps k₁).trans q.2⟩) fun _ _ e => e
  · rcases List.mem_cons.mp hb with rfl | hb
    · exact hx₁
    · rw [List.mem_singleton.mp hb]; exact hx₂
  · rcases List.mem_cons.mp hc with rfl | hc
    · exact h₁ d hd e
    · rw [List.mem_singleton.mp hc] at e; exact h₂ d hd e
  · match i, h1, h2 with
    | 0, h1, h2 => cases h1; cases h2; exact wpAny_assign_Name hq
    | 1, h1, h2 => cases h1; cases h2; exact wpAny_assign_Name hq
    | i + 2, h1, h2 => cases h2
  · exact (List.mem_append.mp hc)
theorem imp_none : Imp rNone () (rOpt r) none := fun P h v e => e
theorem imp_some (x : α) : Imp r x (rOpt r) (some x) := fun P h v e => e
theorem imp_ofNone : Imp (rOpt r) none rNone () := fun P h v e => e
theorem imp_ofSome (x : α) : Imp (rOpt r) (some x) r x := fun P h v e => e
theorem imp_act (aL aR : Addr) (b : Bool) : Imp (rAct aL aR) b rVal (.ref (if b then aR else aL)) := fun P h v e => e
/-- what the search of the kind b tells -/
noncomputable def bw (b : Bool) (val : Nat → Int) (x : Int) (lo hi : Nat) : Nat := if b then brw val x lo hi else blw val x lo hi
variable {aL aR aF : Addr}
theorem Ev.acts (hl : D.fn "bisect_left" = some (aL, fBL)) (hr : D.fn "bisect_right" = some (aR, fBR)) {p1 p2 : Pos} {pos : Pos} (hx : sc.names.lookup ("bisect_left" : Str) = some .globalImplicit := by decide) (hy : sc.names.lookup ("bisect_right" : Str) = some .globalImplicit := by decide)
    (ht : ∀ env, backTo pos (starEach [.Name "bisect_left" p1, .Name "bisect_right" p2] env) = [.Name "bisect_left" p1, .Name "bisect_right" p2].map fun e => (false, eval e env) := by intro _; rfl) :
    Ev prog w D n sc Γ P (.List [.Name "bisect_left" p1, .Name "bisect_right" p2] pos) (rList (rAct aL aR)) [false, true] :=
  Ev.list (xs := [false, true]) (r := rAct aL aR) ⟨(Ev.glob hx (D.fl _ _ _ hl)).imp fun P h v e => e, (Ev.glob hy (D.fl _ _ _ hr)).imp fun P h v e => e, trivial⟩ (by show 2 ≤ 100; decide) ht
theorem Ev.act4 {b : Bool} {p pos : Pos} {e₁ e₂ e₃ e₄ : Expr} {xs : List Int} {x : Int} {lo : Nat} {o : Option Nat} {val : Nat → Int} (hl : D.fn "bisect_left" = some (aL, fBL)) (hr : D.fn "bisect_right" = some (aR, fBR)) (hact : Ev prog w D (n + 2) sc Γ P (.Name "act" p) (rAct aL aR) b)
    (h₁ : Ev prog w D (n + 2) sc Γ P e₁ (rRoot rInt) xs) (h₂ : Ev prog w D (n + 2) sc Γ P e₂ rInt x) (h₃ : Ev prog w D (n + 2) sc Γ P e₃ rInt (lo : Int)) (h₄ : Ev prog w D (n + 2) sc Γ P e₄ (rOpt rInt) (o.map fun h : Nat => (h : Int)))
    (hsz : xs.length < 2 ^ 30) (hlo : lo ≤ xs.length) (hhi : o.getD xs.length ≤ xs.length) (hv : ∀ j, j < xs.length → xs[j]? = some (val j))
    (ht : ∀ env, backTo pos (starEach [e₁, e₂, e₃, e₄] env) = [e₁, e₂, e₃, e₄].map fun e => (false, eval e env) := by intro _; rfl) :
    Ev prog w D (n + 2) sc Γ P (.Call (.Name "act" p) [e₁, e₂, e₃, e₄] [] pos) rInt ((bw b val x lo (o.getD xs.length) : Nat) : Int) := by
  have hact' := hact.imp (imp_act aL aR b)
  cases o with
  | none =>
    cases b with
    | true => exact Ev.call (names := []) (ks := []) (kes := []) (bs := [⟨rRoot rInt, xs⟩, ⟨rInt, x⟩, ⟨rInt, (lo : Int)⟩, ⟨rNone, ()⟩]) hact' hr ⟨h₁, h₂, h₃, h₄.imp imp_ofNone, trivial⟩ trivial (right_call4 (hi := Option.none) hr .none hsz hlo hhi hv) (by simp) ht (fun _ => rfl) rfl
    | false => exact Ev.call (names := []) (ks := []) (kes := []) (bs := [⟨rRoot rInt, xs⟩, ⟨rInt, x⟩, ⟨rInt, (lo : Int)⟩, ⟨rNone, ()⟩]) hact' hl ⟨h₁, h₂, h₃, h₄.imp imp_ofNone, trivial⟩ trivial (left_call4 (hi := Option.none) hl .none hsz hlo hhi hv) (by simp) ht (fun _ => rfl) rfl
  | some h =>
    cases b with
    | true => exact Ev.call (names := []) (ks := []) (kes := []) (bs := [⟨rRoot rInt, xs⟩, ⟨rInt, x⟩, ⟨rInt, (lo : Int)⟩, ⟨rInt, (h : Int)⟩]) hact' hr ⟨h₁, h₂, h₃, h₄.imp (imp_ofSome _), trivial⟩ trivial (right_call4 (hi := some h) hr .some hsz hlo hhi hv) (by simp) ht (fun _ => rfl) rfl
    | false => exact Ev.call (names := []) (ks := []) (kes := []) (bs := [⟨rRoot rInt, xs⟩, ⟨rInt, x⟩, ⟨rInt, (lo : Int)⟩, ⟨rInt, (h : Int)⟩]) hact' hl ⟨h₁, h₂, h₃, h₄.imp (imp_ofSome _), trivial⟩ trivial (left_call4 (hi := some h) hl .some hsz hlo hhi hv) (by simp) ht (fun _ => rfl) rfl
theorem Ev.act5 {b : Bool} {p pos kp : Pos} {e₁ e₂ e₃ e₄ e₅ : Expr} {xs row : List Int} {x : Int} {lo : Nat} {o : Option Nat} {val : Nat → Int} (hl : D.fn "bisect_left" = some (aL, fBL)) (hr : D.fn "bisect_right" = some (aR, fBR)) (hact : Ev prog w D (n + 2) sc Γ P (.Name "act" p) (rAct aL aR) b)
    (h₁ : Ev prog w D (n + 2) sc Γ P e₁ (rRoot rInt) xs) (h₂ : Ev prog w D (n + 2) sc Γ P e₂ rInt x) (h₃ : Ev prog w D (n + 2) sc Γ P e₃ rInt (lo : Int)) (h₄ : Ev prog w D (n + 2) sc Γ P e₄ (rOpt rInt) (o.map fun h : Nat => (h : Int))) (h₅ : Ev prog w D (n + 2) sc Γ P e₅ rKey row)
    (hsz : xs.length < 2 ^ 30) (hlo : lo ≤ xs.length) (hhi : o.getD xs.length ≤ xs.length) (hk : KeyIs xs val rKey row)
    (ht : ∀ env, backTo pos (starEach [e₁, e₂, e₃, e₄] env) = [e₁, e₂, e₃, e₄].map fun e => (false, eval e env) := by intro _; rfl) :
    Ev prog w D (n + 2) sc Γ P (.Call (.Name "act" p) [e₁, e₂, e₃, e₄] [⟨some "key", e₅, kp⟩] pos) rInt ((bw b val x lo (o.getD xs.length) : Nat) : Int) := by
  have hact' := hact.imp (imp_act aL aR b)
  cases o with
  | none =>
    cases b with
    | true => exact Ev.call (names := ["key"]) (ks := [⟨rKey, row⟩]) (kes := [e₅]) (bs := [⟨rRoot rInt, xs⟩, ⟨rInt, x⟩, ⟨rInt, (lo : Int)⟩, ⟨rNone, ()⟩]) hact' hr ⟨h₁, h₂, h₃, h₄.imp imp_ofNone, trivial⟩ ⟨h₅, trivial⟩ (right_call5 (hi := Option.none) hr .none hsz hlo hhi hk) (by simp) ht (fun _ => rfl) rfl
    | false => exact Ev.call (names := ["key"]) (ks := [⟨rKey, row⟩]) (kes := [e₅]) (bs := [⟨rRoot rInt, xs⟩, ⟨rInt, x⟩, ⟨rInt, (lo : Int)⟩, ⟨rNone, ()⟩]) hact' hl ⟨h₁, h₂, h₃, h₄.imp imp_ofNone, trivial⟩ ⟨h₅, trivial⟩ (left_call5 (hi := Option.none) hl .none hsz hlo hhi hk) (by simp) ht (fun _ => rfl) rfl
  | some h =>
    cases b with
    | true => exact Ev.call (names := ["key"]) (ks := [⟨rKey, row⟩]) (kes := [e₅]) (bs := [⟨rRoot rInt, xs⟩, ⟨rInt, x⟩, ⟨rInt, (lo : Int)⟩, ⟨rInt, (h : Int)⟩]) hact' hr ⟨h₁, h₂, h₃, h₄.imp (imp_ofSome _), trivial⟩ ⟨h₅, trivial⟩ (right_call5 (hi := some h) hr .some hsz hlo hhi hk) (by simp) ht (fun _ => rfl) rfl
    | false => exact Ev.call (names := ["key"]) (ks := [⟨rKey, row⟩]) (kes := [e₅]) (bs := [⟨rRoot rInt, xs⟩, ⟨rInt, x⟩, ⟨rInt, (lo : Int)⟩, ⟨rInt, (h : Int)⟩]) hact' hl ⟨h₁, h₂, h₃, h₄.imp (imp_ofSome _), trivial⟩ ⟨h₅, trivial⟩ (left_call5 (hi := some h) hl .some hsz hlo hhi hk) (by simp) ht (fun _ => rfl) rfl
/-- a lo below nought is refused -/
theorem Ev.refused {b : Bool} {p p1 p2 p3 p4 p5 pos : Pos} {lo : Int} {β₁ β₂ β₃ : Type} {r₁ : Rel β₁} {r₂ : Rel β₂} {r₃ : Rel β₃} {y₁ : β₁} {y₂ : β₂} {y₃ : β₃} (hf : D.fn "_law_refused" = some (aF, fRef)) (hl : D.fn "bisect_left" = some (aL, fBL)) (hr : D.fn "bisect_right" = some (aR, fBR)) (hlo : lo < 0)
    (m0 : (⟨"act", rAct aL aR, b⟩ : Bnd) ∈ Γ) (m1 : (⟨"laid", r₁, y₁⟩ : Bnd) ∈ Γ) (m2 : (⟨"low", rInt, lo⟩ : Bnd) ∈ Γ) (m3 : (⟨"high", r₂, y₂⟩ : Bnd) ∈ Γ) (m4 : (⟨"key", r₃, y₃⟩ : Bnd) ∈ Γ) (hx : sc.names.lookup ("_law_refused" : Str) = some .globalImplicit := by decide) :
    Ev prog w D (n + 2) sc Γ P (.Call (.Name "_law_refused" p) [.Name "act" p1, .Name "laid" p2, .Name "low" p3, .Name "high" p4, .Name "key" p5] [] pos) rBool true := by
  refine Ev.call (names := []) (ks := []) (kes := []) (bs := [⟨rAct aL aR, b⟩, ⟨r₁, y₁⟩, ⟨rInt, lo⟩, ⟨r₂, y₂⟩, ⟨r₃, y₃⟩]) (Ev.glob hx (D.fl _ _ _ hf)) hf ⟨Ev.var m0, Ev.var m1, Ev.var m2, Ev.var m3, Ev.var m4, trivial⟩ trivial ?_ (by simp) (fun _ => rfl) (fun _ => rfl) rfl
  intro A s vs kvs E hL hW hF ha hk
  cases hk
  cases ha with
  | cons h0 ha => cases ha with
    | cons h1 ha => cases ha with
      | cons h2 ha => cases ha with
        | cons h3 ha => cases ha with
          | cons h4 ha =>
            cases ha
            obtain ⟨t, rfl⟩ := h2
            obtain rfl := h0
            cases b with
            | true => exact refused_call hf hr (.inr rfl) hL hW hF hlo
            | false => exact refused_call hf hl (.inl rfl) hL hW hF hlo
end
end Mine
end

section
open PySem PySem.W
set_option Elab.async false
set_option linter.unusedVariables false
set_option linter.unusedSectionVars false
set_option maxRecDepth 10000
set_option maxHeartbeats 4000000
open PyProof.Rows
namespace Mine
noncomputable def rowAt (row : List Int) (p : Int) : Int := row.getD p.toNat 1
noncomputable def moreOf (row pile : List Int) (place : Int) : List Int := pile.filter fun o => decide (rowAt row place < rowAt row o)
noncomputable def ampleOf (row pile : List Int) (place : Int) : List Int := pile.filter fun o => decide (rowAt row place ≤ rowAt row o)
noncomputable def fitOf (row : List Int) (weak : Bool) (pile : List Int) (place : Int) : List Int := if weak then ampleOf row pile place else moreOf row pile place
noncomputable def earlyN (pile : List Int) (place : Int) : Nat := (pile.filter fun o => decide (o < place)).length
noncomputable def laidOf (ps : List (List Int)) : List Int := ps.flatMap fun p => p
noncomputable def lowAt (ps : List (List Int)) : Nat → Nat
  | 0 => 0
  | k + 1 => lowAt ps k + (ps.getD k []).length
noncomputable def hiAt (ps : List (List Int)) (k : Nat) : Option Nat := if k + 1 < ps.length then some (lowAt ps k + (ps.getD k []).length) else none
noncomputable def nextAt (row : List Int) (ps : List (List Int)) (weak : Bool) (k : Nat) (place : Int) : List Int := (fitOf row weak (ps.getD k []) place).filter fun o => decide (place < o)
noncomputable def okPlace (row : List Int) (ps : List (List Int)) (weak : Bool) (k : Nat) (place : Int) : Bool :=
  (bw false (fun j => (laidOf ps).getD j 0) place (lowAt ps k) ((hiAt ps k).getD (laidOf ps).length) == lowAt ps k + earlyN (ps.getD k []) place) &&
  (bw true (fun j => (laidOf ps).getD j 0) place (lowAt ps k) ((hiAt ps k).getD (laidOf ps).length) == lowAt ps k + earlyN (ps.getD k []) place) &&
  (bw false (fun j => -rowAt row ((laidOf ps).getD j 0)) (-rowAt row place) (lowAt ps k) ((hiAt ps k).getD (laidOf ps).length) == lowAt ps k + (moreOf row (ps.getD k []) place).length) &&
  (bw true (fun j => -rowAt row ((laidOf ps).getD j 0)) (-rowAt row place) (lowAt ps k) ((hiAt ps k).getD (laidOf ps).length) == lowAt ps k + (ampleOf row (ps.getD k []) place).length) &&
  eqI (pick (laidOf ps) (some ((lowAt ps k + earlyN (ps.getD k []) place : Nat) : Int)) (some ((lowAt ps k + (fitOf row weak (ps.getD k []) place).length : Nat) : Int)) none) (nextAt row ps weak k place)
noncomputable def okNexts (row : List Int) (ps : List (List Int)) (weak : Bool) : Bool :=
  decide (0 < ps.length) && decide (ps.length < 100) && decide (row.length < 100) && decide (0 < (laidOf ps).length) && decide ((laidOf ps).length < 1000) && ps.all (fun p => decide (p.length < 100) && p.all (inR row.length)) &&
  (List.range (ps.length - 1)).all fun i => decide (lowAt ps (i + 1) ≤ (laidOf ps).length) && decide ((hiAt ps (i + 1)).getD (laidOf ps).length ≤ (laidOf ps).length) && (ps.getD i []).all (okPlace row ps weak (i + 1))
noncomputable def nstep (row : List Int) (ps : List (List Int)) (weak : Bool) (i : Nat) (u : List (List Int)) (place : Int) : List (List Int) := u.set place.toNat (nextAt row ps weak (i + 1) place)
noncomputable def nxAt (row : List Int) (ps : List (List Int)) (weak : Bool) : Nat → List (List Int)
  | 0 => List.replicate row.length []
  | i + 1 => (ps.getD i []).foldl (nstep row ps weak i) (nxAt row ps weak i)
noncomputable def nextsOf (row : List Int) (ps : List (List Int)) (weak : Bool) : List (List Int) := nxAt row ps weak (ps.length - 1)
variable [Lim]
theorem foldl_len {α β : Type} {f : List β → α → List β} (h : ∀ u x, (f u x).length = u.length) : ∀ (xs : List α) (u : List β), (xs.foldl f u).length = u.length
  | [], _ => rfl
  | x :: xs, u => by rw [List.foldl_cons, foldl_len h xs, h]
theorem nstep_len (row : List Int) (ps : List (List Int)) (weak : Bool) (i : Nat) (u : List (List Int)) (place : Int) : (nstep row ps weak i u place).length = u.length := List.length_set
theorem nxAt_len (row : List Int) (ps : List (List Int)) (weak : Bool) : ∀ i, (nxAt row ps weak i).length = row.length
  | 0 => List.length_replicate
  | i + 1 => by rw [nxAt, foldl_len (nstep_len row ps weak i), nxAt_len row ps weak i]

noncomputable def fNext : Fn := fnOfStm 13 (bindPos ["row", "piles", "weak"])
theorem fits_next : FnFits fNext := ⟨rfl, rfl, rfl, by decide, by decide⟩
noncomputable abbrev scN : Scope := freeRow fNext.scope
noncomputable def forBody : Stmt → List Stmt
  | .For _ _ body .. => body
  | _ => []
noncomputable def nStm (i : Nat) : Stmt := (fNext.body[i]?).getD (.Pass ⟨0, 0, 0, 0⟩)
section
variable {prog : Program} {w : World} {D : Wd} {sc : Scope} {P : Addr → Prop} {Γ Γ' Θ : List Bnd} {M : List Mu} {n : Nat} {A : Around} {α β γ : Type} {r : Rel α} {r' : Rel β} {aL aR aF : Addr}
noncomputable abbrev nG (row : List Int) (ps : List (List Int)) (weak : Bool) : List Bnd := [⟨"turned", rKey, row⟩, ⟨"laid", rList rInt, laidOf ps⟩, ⟨"row", rList rInt, row⟩, ⟨"piles", rList (rList rInt), ps⟩, ⟨"weak", rBool, weak⟩]
theorem Ev.rowAt {row : List Int} {k : Int} {value slice : Expr} {pos : Pos} (hr : row.length < 100) (hv : Ev prog w D n sc Γ P value (rRoot rInt) row) (hi : Ev prog w D n sc Γ P slice rInt k) (h : inR row.length k = true)
    (hs : ∀ l u, subscripted slice false (.ref l) (.int k u) = operate [.ref l, .int k u] (getItem (.ref l) (.int k u)) := by intro _ _; with_unfolding_all rfl) : Ev prog w D n sc Γ P (.Subscript value slice pos) rInt (rowAt row k) := by
  obtain ⟨h0, h1⟩ := inR_iff.mp h
  exact Ev.idx hv hi h0 (by omega) (getD_at (by omega)) hs
/-- the refusals -/
theorem next_for {row : List Int} {ps : List (List Int)} {weak : Bool} (hf : D.fn "_law_refused" = some (aF, fRef)) (hl : D.fn "bisect_left" = some (aL, fBL)) (hr : D.fn "bisect_right" = some (aR, fBR)) (h2 : row.length < 100) (h0 : 0 < (laidOf ps).length) (h1 : (laidOf ps).length < 1000) (b : Bool) :
    ExS prog w D (n + 2) scN P (⟨"act", rAct aL aR, b⟩ :: nG row ps weak) [] (forBody (nStm 2)) (nG row ps weak) [] := by
  have hlaid : ∀ j, j < (laidOf ps).length → (laidOf ps)[j]? = some ((laidOf ps).getD j 0) := fun j hj => getD_at hj
  unfold nG
  generalize laidOf ps = laid at *
  refine ExS.cons (Γ' := ⟨"ends", rList (rTwo rInt (rOpt rInt)), [(-1, none), (-1, some (laid.length : Int)), (-(laid.length : Int), none), (-(laid.length : Int), some (laid.length : Int))]⟩ :: ⟨"act", rAct aL aR, b⟩ :: ⟨"turned", rKey, row⟩ :: ⟨"laid", rList rInt, laid⟩ :: ⟨"row", rList rInt, row⟩ :: ⟨"piles", rList (rList rInt), ps⟩ :: ⟨"weak", rBool, weak⟩ :: []) (M' := []) rfl
    (Ex.assignComp (r' := rTwo rInt (rOpt rInt)) (ys := [(-1, none), (-1, some (laid.length : Int)), (-(laid.length : Int), none), (-(laid.length : Int), some (laid.length : Int))]) Seen.self (CompRun.cast (run2 (r := rInt) (r₂ := rOpt rInt) (xs := [-1, -(laid.length : Int)]) (ys := fun _ => [none, some (laid.length : Int)]) (p := fun _ => true) (q := fun _ _ => true) (f := fun lo h => (lo, h)) (Δ := fun x => [⟨"low", rInt, x⟩]) (Δ₂ := fun _ y => [⟨"high", rOpt rInt, y⟩])
      (Γc := [⟨"laid", rList rInt, laid⟩]) (Ev.seqL (Ev.list (xs := [-1, -(laid.length : Int)]) ⟨Ev.neg Ev.int, Ev.neg (Ev.len (Ev.root Ev.var) (by omega)), trivial⟩ (by decide))) (by decide) caught (solid_two solid_int (solid_opt solid_int)) (solid_opt solid_int) (Tgt.name (by decide) fresh_name) (fun Pin k hk => .inl ⟨rfl, rfl⟩)
      (fun Pin k hk _ => Ev.list (xs := [none, some (laid.length : Int)]) (r := rOpt rInt) ⟨Ev.none.imp imp_none, (Ev.len (Ev.root Ev.var) (by omega)).imp (imp_some _), trivial⟩ (by decide)) (fun k hk => Tgt.name (by decide) fresh_name) (fun Pin k hk _ y hy => .inl ⟨rfl, rfl⟩) (fun Pin k hk _ y hy _ => Ev.two Ev.var Ev.var) ?_) rfl) (solid_two solid_int (solid_opt solid_int)) (by decide) grow) ?_
  · rw [sizeLine_eq]; show 4 ≤ _; decide
  have hneg : ∀ x ∈ ([(-1, none), (-1, some (laid.length : Int)), (-(laid.length : Int), none), (-(laid.length : Int), some (laid.length : Int))] : List (Int × Option Int)), x.1 < 0 := by
    intro x hx
    simp only [List.mem_cons, List.not_mem_nil, or_false] at hx
    rcases hx with rfl | rfl | rfl | rfl <;> (dsimp only; omega)
  generalize hends : ([(-1, none), (-1, some (laid.length : Int)), (-(laid.length : Int), none), (-(laid.length : Int), some (laid.length : Int))] : List (Int × Option Int)) = ends at *
  have hendl : ends.length = 4 := by rw [← hends]; rfl
  refine ExS.cons (Γ' := ⟨"refused", rList rBool, ends.flatMap fun _ => [true, true]⟩ :: ⟨"act", rAct aL aR, b⟩ :: ⟨"turned", rKey, row⟩ :: ⟨"laid", rList rInt, laid⟩ :: ⟨"row", rList rInt, row⟩ :: ⟨"piles", rList (rList rInt), ps⟩ :: ⟨"weak", rBool, weak⟩ :: []) (M' := []) rfl
    (Ex.assignComp (r' := rBool) (ys := ends.flatMap fun _ => [true, true]) Seen.self (CompRun.cast (run2 (r := rTwo rInt (rOpt rInt)) (r₂ := rOpt rKey) (xs := ends) (ys := fun _ => [none, some row]) (p := fun _ => true) (q := fun _ _ => true) (f := fun _ _ => true) (Δ := fun x => [⟨"low", rInt, x.1⟩, ⟨"high", rOpt rInt, x.2⟩]) (Δ₂ := fun _ y => [⟨"key", rOpt rKey, y⟩])
      (Γc := [⟨"act", rAct aL aR, b⟩, ⟨"laid", rList rInt, laid⟩, ⟨"turned", rKey, row⟩]) (Ev.seqL Ev.var) (by decide) caught solid_bool (solid_opt solid_key) (Tgt.two solid_int (solid_opt solid_int) (by decide) (by decide) (by decide) fresh_name fresh_name) (fun Pin k hk => .inl ⟨rfl, rfl⟩)
      (fun Pin k hk _ => Ev.list (xs := [none, some row]) (r := rOpt rKey) ⟨Ev.none.imp imp_none, (Ev.var).imp (imp_some _), trivial⟩ (by decide)) (fun k hk => Tgt.name (by decide) fresh_name) (fun Pin k hk _ y hy => .inl ⟨rfl, rfl⟩) (fun Pin k hk _ y hy _ => ?_) ?_) ?_) solid_bool (by decide) (fun c hc => ?_)) ?_
  · exact Ev.refused hf hl hr (hneg k hk) (.tail _ (.tail _ (.tail _ (.head _)))) (.tail _ (.tail _ (.tail _ (.tail _ (.head _))))) (.tail _ (.head _)) (.tail _ (.tail _ (.head _))) (.head _)
  · rw [← hends, sizeLine_eq]; show 8 ≤ _; decide
  · rw [← hends]; rfl
  · rcases List.mem_cons.mp hc with rfl | hc
    · exact .inl rfl
    · exact .inr ⟨.tail _ hc, (show ∀ b ∈ (_ : List Bnd), b.name ≠ ("refused" : Str) from fresh_name) c hc⟩
  refine ExS.cons (Γ' := ⟨"refused", rList rBool, ends.flatMap fun _ => [true, true]⟩ :: ⟨"act", rAct aL aR, b⟩ :: ⟨"turned", rKey, row⟩ :: ⟨"laid", rList rInt, laid⟩ :: ⟨"row", rList rInt, row⟩ :: ⟨"piles", rList (rList rInt), ps⟩ :: ⟨"weak", rBool, weak⟩ :: []) (M' := []) rfl
    (Ex.ifNot Seen.self (Et.cast (Et.or (Et.cast (y := false) (Et.cmp Ev.bool (Ev.root Ev.var) (op_in eqR_bool fun_bool _ _)) (in_true fun x hx => ?_)) fun _ => Et.cast (y := false) (Et.cmp (Ev.act4 (b := b) (lo := 0) (o := some 0) hl hr Ev.var (Ev.root Ev.var) (Ev.len (Ev.root Ev.var) (by omega)) (Ev.cast Ev.int rfl) (Ev.imp (Ev.int (i := 0)) fun P h v e => e) (by omega) (by omega) (by simp) hlaid) Ev.int (op_ne _ _)) ?_) rfl)) (ExS.nil fun c hc => .tail _ (.tail _ hc))
  · obtain ⟨_, _, e⟩ := List.mem_flatMap.mp hx
    simp only [List.mem_cons, List.not_mem_nil, or_false, or_self] at e
    exact e
  · have : bw b (fun j => laid.getD j 0) (row.length : Int) 0 ((some 0).getD laid.length) = 0 := by
      unfold bw
      cases b with
      | true => rw [if_pos rfl]; exact brw_ge _ _ (by simp)
      | false => rw [if_neg (by simp)]; exact blw_ge _ _ (by simp)
    rw [this]; rfl
end
end Mine
end

section
open PySem PySem.W
set_option Elab.async false
set_option linter.unusedVariables false
set_option linter.unusedSectionVars false
set_option maxRecDepth 10000
set_option maxHeartbeats 4000000
open PyProof.Rows
namespace Mine
variable [Lim]
section
variable {prog : Program} {w : World} {D : Wd} {sc : Scope} {P : Addr → Prop} {Γ Γ' Θ : List Bnd} {M : List Mu} {n : Nat} {A : Around} {α β γ : Type} {r : Rel α} {r' : Rel β} {aL aR aF : Addr}
theorem filter_len {α : Type} (p : α → Bool) (l : List α) : (l.filter p).length ≤ l.length := List.length_filter_le p l
/-- one place's step -/
theorem next_place {row : List Int} {ps : List (List Int)} {weak : Bool} {i : Nat} {x place : Int} {a : Addr} {cur : List (List Int)} (hl : D.fn "bisect_left" = some (aL, fBL)) (hr : D.fn "bisect_right" = some (aR, fBR)) (h2 : row.length < 100) (h1 : (laidOf ps).length < 1000)
    (hpl : (ps.getD (i + 1) []).length < 100) (hpr : ∀ o ∈ ps.getD (i + 1) [], inR row.length o = true) (hlr : ∀ o ∈ laidOf ps, inR row.length o = true) (hpo : inR row.length place = true) (hlo : lowAt ps (i + 1) ≤ (laidOf ps).length) (hhi : (hiAt ps (i + 1)).getD (laidOf ps).length ≤ (laidOf ps).length)
    (hcl : cur.length = row.length) (ok : okPlace row ps weak (i + 1) place = true) :
    ExS prog w D (n + 2) scN P (⟨"place", rInt, place⟩ :: ⟨"high", rOpt rInt, (hiAt ps (i + 1)).map fun h : Nat => (h : Int)⟩ :: ⟨"pile", rList rInt, ps.getD (i + 1) []⟩ :: ⟨"low", rInt, (lowAt ps (i + 1) : Int)⟩ :: ⟨"k", rInt, x⟩ :: ⟨"nexts", rAddr, a⟩ :: nG row ps weak) [⟨a, rList rInt, cur⟩]
      (forBody ((forBody (nStm 4))[2]?.getD (.Pass ⟨0, 0, 0, 0⟩)))
      (⟨"high", rOpt rInt, (hiAt ps (i + 1)).map fun h : Nat => (h : Int)⟩ :: ⟨"pile", rList rInt, ps.getD (i + 1) []⟩ :: ⟨"low", rInt, (lowAt ps (i + 1) : Int)⟩ :: ⟨"k", rInt, x⟩ :: ⟨"nexts", rAddr, a⟩ :: nG row ps weak) [⟨a, rList rInt, nstep row ps weak i cur place⟩] := by
  unfold okPlace at ok
  simp only [Bool.and_eq_true, beq_iff_eq] at ok
  obtain ⟨⟨⟨⟨k1, k2⟩, k3⟩, k4⟩, k5⟩ := ok
  have k6 := (eqI_eq k5)
  unfold nextAt at k6
  unfold nstep nextAt nG
  have hlaid : ∀ j, j < (laidOf ps).length → (laidOf ps)[j]? = some ((laidOf ps).getD j 0) := fun j hj => getD_at hj
  have hkey : KeyIs (laidOf ps) (fun j => -rowAt row ((laidOf ps).getD j 0)) rKey row := .key fun j hj => by
    have hm := hlr _ (List.mem_of_getElem? (hlaid j hj))
    obtain ⟨q0, q1⟩ := inR_iff.mp hm
    exact ⟨(laidOf ps).getD j 0, rowAt row ((laidOf ps).getD j 0), hlaid j hj, q0, by omega, getD_at (by omega), rfl⟩
  generalize hpile : ps.getD (i + 1) [] = pile at *
  generalize hlow : lowAt ps (i + 1) = low at *
  generalize hH : hiAt ps (i + 1) = o at *
  generalize hlaidE : laidOf ps = laid at *
  generalize hE : low + earlyN pile place = E at *
  have hmo : (moreOf row pile place).length ≤ pile.length := filter_len _ _
  have ham : (ampleOf row pile place).length ≤ pile.length := filter_len _ _
  have hea : earlyN pile place ≤ pile.length := filter_len _ _
  have hmop : ∀ z ∈ moreOf row pile place, inR row.length z = true := fun z hz => hpr z (List.mem_filter.mp hz).1
  have hamp : ∀ z ∈ ampleOf row pile place, inR row.length z = true := fun z hz => hpr z (List.mem_filter.mp hz).1
  obtain ⟨p0, p1⟩ := inR_iff.mp hpo
  have hfit : fitOf row weak pile place = if weak then ampleOf row pile place else moreOf row pile place := rfl
  have hmoD : moreOf row pile place = pile.filter fun o => decide (rowAt row place < rowAt row o) := rfl
  have hamD : ampleOf row pile place = pile.filter fun o => decide (rowAt row place ≤ rowAt row o) := rfl
  have heaD : earlyN pile place = (pile.filter fun o => decide (o < place)).length := rfl
  rw [hfit] at k6 k5 ⊢
  generalize moreOf row pile place = mo at *
  generalize ampleOf row pile place = am at *
  -- more
  refine ExS.cons (Γ' := ⟨"more", rList rInt, mo⟩ :: ⟨"place", rInt, place⟩ :: ⟨"high", rOpt rInt, o.map fun h : Nat => (h : Int)⟩ :: ⟨"pile", rList rInt, pile⟩ :: ⟨"low", rInt, (low : Int)⟩ :: ⟨"k", rInt, x⟩ :: ⟨"nexts", rAddr, a⟩ :: ⟨"turned", rKey, row⟩ :: ⟨"laid", rList rInt, laid⟩ :: ⟨"row", rList rInt, row⟩ :: ⟨"piles", rList (rList rInt), ps⟩ :: ⟨"weak", rBool, weak⟩ :: []) (M' := [⟨a, rList rInt, cur⟩]) rfl
    (Ex.assignComp (r' := rInt) (ys := mo) Seen.self (CompRun.cast (run1 (r := rInt) (xs := pile) (p := fun z => decide (rowAt row place < rowAt row z)) (f := fun z => z) (Δ := fun z => [⟨"other", rInt, z⟩]) (Γc := [⟨"row", rList rInt, row⟩, ⟨"place", rInt, place⟩])
      (Ev.seqL Ev.var) (by decide) caught solid_int (Tgt.name (by decide) fresh_name) (fun Pin z hz => .inr ⟨_, rfl, Et.cmp (Ev.rowAt h2 (Ev.root Ev.var) Ev.var (hpr z hz)) (Ev.rowAt h2 (Ev.root Ev.var) Ev.var hpo) (op_gt _ _)⟩) (fun Pin z hz _ => Ev.var) (by rw [sizeLine_eq]; omega)) (by rw [List.map_id', ← hmoD])) solid_int (by decide) grow) ?_
  -- ample
  refine ExS.cons (Γ' := ⟨"ample", rList rInt, am⟩ :: ⟨"more", rList rInt, mo⟩ :: ⟨"place", rInt, place⟩ :: ⟨"high", rOpt rInt, o.map fun h : Nat => (h : Int)⟩ :: ⟨"pile", rList rInt, pile⟩ :: ⟨"low", rInt, (low : Int)⟩ :: ⟨"k", rInt, x⟩ :: ⟨"nexts", rAddr, a⟩ :: ⟨"turned", rKey, row⟩ :: ⟨"laid", rList rInt, laid⟩ :: ⟨"row", rList rInt, row⟩ :: ⟨"piles", rList (rList rInt), ps⟩ :: ⟨"weak", rBool, weak⟩ :: []) (M' := [⟨a, rList rInt, cur⟩]) rfl
    (Ex.assignComp (r' := rInt) (ys := am) Seen.self (CompRun.cast (run1 (r := rInt) (xs := pile) (p := fun z => decide (rowAt row place ≤ rowAt row z)) (f := fun z => z) (Δ := fun z => [⟨"other", rInt, z⟩]) (Γc := [⟨"row", rList rInt, row⟩, ⟨"place", rInt, place⟩])
      (Ev.seqL Ev.var) (by decide) caught solid_int (Tgt.name (by decide) fresh_name) (fun Pin z hz => .inr ⟨_, rfl, Et.cmp (Ev.rowAt h2 (Ev.root Ev.var) Ev.var (hpr z hz)) (Ev.rowAt h2 (Ev.root Ev.var) Ev.var hpo) (op_ge _ _)⟩) (fun Pin z hz _ => Ev.var) (by rw [sizeLine_eq]; omega)) (by rw [List.map_id', ← hamD])) solid_int (by decide) grow) ?_
  -- early
  refine ExS.cons (Γ' := ⟨"early", rInt, (E : Int)⟩ :: ⟨"ample", rList rInt, am⟩ :: ⟨"more", rList rInt, mo⟩ :: ⟨"place", rInt, place⟩ :: ⟨"high", rOpt rInt, o.map fun h : Nat => (h : Int)⟩ :: ⟨"pile", rList rInt, pile⟩ :: ⟨"low", rInt, (low : Int)⟩ :: ⟨"k", rInt, x⟩ :: ⟨"nexts", rAddr, a⟩ :: ⟨"turned", rKey, row⟩ :: ⟨"laid", rList rInt, laid⟩ :: ⟨"row", rList rInt, row⟩ :: ⟨"piles", rList (rList rInt), ps⟩ :: ⟨"weak", rBool, weak⟩ :: []) (M' := [⟨a, rList rInt, cur⟩]) rfl
    (Ex.assign (r := rInt) (y := (E : Int)) Seen.self (Ev.cast (Ev.bin Ev.var (Ev.len (Ev.root (Ev.comp1 (r := rInt) (r' := rInt) (xs := pile) (p := fun z => decide (z < place)) (f := fun z => z) (Δ := fun z => [⟨"other", rInt, z⟩]) (Γc := [⟨"place", rInt, place⟩])
      (Ev.seqL Ev.var) caught solid_int (Tgt.name (by decide) fresh_name) (fun Pin z hz => .inr ⟨_, rfl, Et.cmp Ev.var Ev.var (op_lt _ _)⟩) (fun Pin z hz _ => Ev.var) (by omega))) (by rw [List.map_id', ← heaD]; omega)) (op_add _ _)) (by rw [List.map_id', ← heaD, ← hE]; omega)) solid_int (by decide) grow) ?_
  have hol : o.getD laid.length < 2 ^ 30 := by omega
  -- places
  refine ExS.cons (Γ' := ⟨"places", rList rInt, [(E : Int), (E : Int)]⟩ :: ⟨"early", rInt, (E : Int)⟩ :: ⟨"ample", rList rInt, am⟩ :: ⟨"more", rList rInt, mo⟩ :: ⟨"place", rInt, place⟩ :: ⟨"high", rOpt rInt, o.map fun h : Nat => (h : Int)⟩ :: ⟨"pile", rList rInt, pile⟩ :: ⟨"low", rInt, (low : Int)⟩ :: ⟨"k", rInt, x⟩ :: ⟨"nexts", rAddr, a⟩ :: ⟨"turned", rKey, row⟩ :: ⟨"laid", rList rInt, laid⟩ :: ⟨"row", rList rInt, row⟩ :: ⟨"piles", rList (rList rInt), ps⟩ :: ⟨"weak", rBool, weak⟩ :: []) (M' := [⟨a, rList rInt, cur⟩]) rfl
    (Ex.assignComp (r' := rInt) (ys := [(E : Int), (E : Int)]) Seen.self (CompRun.cast (run1 (r := rAct aL aR) (xs := [false, true]) (p := fun _ => true) (f := fun b => ((bw b (fun j => laid.getD j 0) place low (o.getD laid.length) : Nat) : Int)) (Δ := fun b => [⟨"act", rAct aL aR, b⟩])
      (Γc := [⟨"laid", rList rInt, laid⟩, ⟨"place", rInt, place⟩, ⟨"low", rInt, (low : Int)⟩, ⟨"high", rOpt rInt, o.map fun h : Nat => (h : Int)⟩])
      (Ev.seqL (Ev.acts hl hr)) (by decide) caught solid_int (Tgt.name (by decide) fresh_name) (fun Pin b hb => .inl ⟨rfl, rfl⟩) (fun Pin b hb _ => Ev.act4 hl hr Ev.var (Ev.root Ev.var) Ev.var Ev.var Ev.var (by omega) hlo hhi hlaid) (by rw [sizeLine_eq]; show 2 ≤ _; decide)) (by rw [List.filter_eq_self.mpr fun _ _ => rfl, List.map_cons, List.map_cons, List.map_nil, k1, k2])) solid_int (by decide) grow) ?_
  -- numbers
  refine ExS.cons (Γ' := ⟨"numbers", rList rInt, [((low + mo.length : Nat) : Int), ((low + am.length : Nat) : Int)]⟩ :: ⟨"places", rList rInt, [(E : Int), (E : Int)]⟩ :: ⟨"early", rInt, (E : Int)⟩ :: ⟨"ample", rList rInt, am⟩ :: ⟨"more", rList rInt, mo⟩ :: ⟨"place", rInt, place⟩ :: ⟨"high", rOpt rInt, o.map fun h : Nat => (h : Int)⟩ :: ⟨"pile", rList rInt, pile⟩ :: ⟨"low", rInt, (low : Int)⟩ :: ⟨"k", rInt, x⟩ :: ⟨"nexts", rAddr, a⟩ :: ⟨"turned", rKey, row⟩ :: ⟨"laid", rList rInt, laid⟩ :: ⟨"row", rList rInt, row⟩ :: ⟨"piles", rList (rList rInt), ps⟩ :: ⟨"weak", rBool, weak⟩ :: []) (M' := [⟨a, rList rInt, cur⟩]) rfl
    (Ex.assignComp (r' := rInt) (ys := [((low + mo.length : Nat) : Int), ((low + am.length : Nat) : Int)]) Seen.self (CompRun.cast (run1 (r := rAct aL aR) (xs := [false, true]) (p := fun _ => true) (f := fun b => ((bw b (fun j => -rowAt row (laid.getD j 0)) (-rowAt row place) low (o.getD laid.length) : Nat) : Int)) (Δ := fun b => [⟨"act", rAct aL aR, b⟩])
      (Γc := [⟨"laid", rList rInt, laid⟩, ⟨"row", rList rInt, row⟩, ⟨"place", rInt, place⟩, ⟨"low", rInt, (low : Int)⟩, ⟨"high", rOpt rInt, o.map fun h : Nat => (h : Int)⟩, ⟨"turned", rKey, row⟩])
      (Ev.seqL (Ev.acts hl hr)) (by decide) caught solid_int (Tgt.name (by decide) fresh_name) (fun Pin b hb => .inl ⟨rfl, rfl⟩) (fun Pin b hb _ => Ev.act5 hl hr Ev.var (Ev.root Ev.var) (Ev.neg (Ev.rowAt h2 (Ev.root Ev.var) Ev.var hpo)) Ev.var Ev.var Ev.var (by omega) hlo hhi hkey) (by rw [sizeLine_eq]; show 2 ≤ _; decide)) (by rw [List.filter_eq_self.mpr fun _ _ => rfl, List.map_cons, List.map_cons, List.map_nil, k3, k4])) solid_int (by decide) grow) ?_
  -- the test
  refine ExS.cons (Γ' := ⟨"numbers", rList rInt, [((low + mo.length : Nat) : Int), ((low + am.length : Nat) : Int)]⟩ :: ⟨"places", rList rInt, [(E : Int), (E : Int)]⟩ :: ⟨"early", rInt, (E : Int)⟩ :: ⟨"ample", rList rInt, am⟩ :: ⟨"more", rList rInt, mo⟩ :: ⟨"place", rInt, place⟩ :: ⟨"high", rOpt rInt, o.map fun h : Nat => (h : Int)⟩ :: ⟨"pile", rList rInt, pile⟩ :: ⟨"low", rInt, (low : Int)⟩ :: ⟨"k", rInt, x⟩ :: ⟨"nexts", rAddr, a⟩ :: ⟨"turned", rKey, row⟩ :: ⟨"laid", rList rInt, laid⟩ :: ⟨"row", rList rInt, row⟩ :: ⟨"piles", rList (rList rInt), ps⟩ :: ⟨"weak", rBool, weak⟩ :: []) (M' := [⟨a, rList rInt, cur⟩]) rfl
    (Ex.ifNot Seen.self (Et.cast (Et.or (Et.cast (y := false) (Et.cmp (Ev.root Ev.var) (Ev.root (Ev.list (xs := [(E : Int), (E : Int)]) ⟨Ev.var, Ev.var, trivial⟩ (by decide))) (op_neL eqR_int _ _)) (by rw [leq_rfl]; rfl)) fun _ => Et.cast (y := false) (Et.cmp (Ev.root Ev.var) (Ev.root (Ev.list (xs := [((low + mo.length : Nat) : Int), ((low + am.length : Nat) : Int)])
      ⟨Ev.cast (Ev.bin Ev.var (Ev.len (Ev.root Ev.var) (by omega)) (op_add _ _)) (by simp), Ev.cast (Ev.bin Ev.var (Ev.len (Ev.root Ev.var) (by omega)) (op_add _ _)) (by simp), trivial⟩ (by decide))) (op_neL eqR_int _ _)) (by rw [leq_rfl]; rfl)) rfl)) ?_
  have hfl : (if weak = true then am else mo).length ≤ pile.length := by cases weak <;> simp <;> omega
  generalize hZ : ((if weak = true then am else mo).filter fun z => decide (place < z)) = Z at *
  -- nexts[place]
  refine ExS.cons (Γ' := ⟨"numbers", rList rInt, [((low + mo.length : Nat) : Int), ((low + am.length : Nat) : Int)]⟩ :: ⟨"places", rList rInt, [(E : Int), (E : Int)]⟩ :: ⟨"early", rInt, (E : Int)⟩ :: ⟨"ample", rList rInt, am⟩ :: ⟨"more", rList rInt, mo⟩ :: ⟨"place", rInt, place⟩ :: ⟨"high", rOpt rInt, o.map fun h : Nat => (h : Int)⟩ :: ⟨"pile", rList rInt, pile⟩ :: ⟨"low", rInt, (low : Int)⟩ :: ⟨"k", rInt, x⟩ :: ⟨"nexts", rAddr, a⟩ :: ⟨"turned", rKey, row⟩ :: ⟨"laid", rList rInt, laid⟩ :: ⟨"row", rList rInt, row⟩ :: ⟨"piles", rList (rList rInt), ps⟩ :: ⟨"weak", rBool, weak⟩ :: []) (M' := [⟨a, rList rInt, cur.set place.toNat Z⟩]) rfl
    (Ex.setItem (M₁ := []) (M₂ := []) (m := ⟨a, rList rInt, cur⟩) (y := Z) (k := place) rfl Seen.self (Ev.cast (Ev.slice (lo := some (E : Int)) (hi := some ((low + (if weak = true then am else mo).length : Nat) : Int)) (st := none) (Ev.root Ev.var) Ev.var
      (Ev.idx (k := if weak = true then 1 else 0) (Ev.root Ev.var) (Ev.ite (Et.val Ev.var) (fun _ => Ev.int) (fun _ => Ev.int)) (by cases weak <;> decide) (by cases weak <;> decide) (by cases weak <;> rfl)) trivial (by decide) (by rw [sizeLine_eq]; omega) (fun _ _ => rfl)) k6) Ev.var Ev.var p0 (by omega) (by rw [hcl]; exact p1) (fun b hb => hb)) ?_
  have own := seen_own (Γ := ⟨"numbers", rList rInt, [((low + mo.length : Nat) : Int), ((low + am.length : Nat) : Int)]⟩ :: ⟨"places", rList rInt, [(E : Int), (E : Int)]⟩ :: ⟨"early", rInt, (E : Int)⟩ :: ⟨"ample", rList rInt, am⟩ :: ⟨"more", rList rInt, mo⟩ :: ⟨"place", rInt, place⟩ :: ⟨"high", rOpt rInt, o.map fun h : Nat => (h : Int)⟩ :: ⟨"pile", rList rInt, pile⟩ :: ⟨"low", rInt, (low : Int)⟩ :: ⟨"k", rInt, x⟩ :: ⟨"nexts", rAddr, a⟩ :: ⟨"turned", rKey, row⟩ :: ⟨"laid", rList rInt, laid⟩ :: ⟨"row", rList rInt, row⟩ :: ⟨"piles", rList (rList rInt), ps⟩ :: ⟨"weak", rBool, weak⟩ :: []) (M := [⟨a, rList rInt, cur.set place.toNat Z⟩]) (nm := "nexts") (m := ⟨a, rList rInt, cur.set place.toNat Z⟩) (.head _) (by repeat (first | exact List.Mem.head _ | apply List.Mem.tail))
  refine ExS.cons (Γ' := ⟨"numbers", rList rInt, [((low + mo.length : Nat) : Int), ((low + am.length : Nat) : Int)]⟩ :: ⟨"places", rList rInt, [(E : Int), (E : Int)]⟩ :: ⟨"early", rInt, (E : Int)⟩ :: ⟨"ample", rList rInt, am⟩ :: ⟨"more", rList rInt, mo⟩ :: ⟨"place", rInt, place⟩ :: ⟨"high", rOpt rInt, o.map fun h : Nat => (h : Int)⟩ :: ⟨"pile", rList rInt, pile⟩ :: ⟨"low", rInt, (low : Int)⟩ :: ⟨"k", rInt, x⟩ :: ⟨"nexts", rAddr, a⟩ :: ⟨"turned", rKey, row⟩ :: ⟨"laid", rList rInt, laid⟩ :: ⟨"row", rList rInt, row⟩ :: ⟨"piles", rList (rList rInt), ps⟩ :: ⟨"weak", rBool, weak⟩ :: []) (M' := [⟨a, rList rInt, cur.set place.toNat Z⟩]) rfl
    (Ex.ifNot own (Et.cast (Et.cmp (Ev.root (Ev.idx (r := rList rInt) (y := Z) Ev.var Ev.var p0 (by omega) (List.getElem?_set_self (by omega)))) (Ev.root (Ev.comp1 (r := rInt) (r' := rInt) (xs := if weak = true then am else mo) (p := fun z => decide (place < z)) (f := fun z => z) (Δ := fun z => [⟨"other", rInt, z⟩]) (Γc := [⟨"place", rInt, place⟩])
      (Ev.seqL (Ev.ite (Et.val Ev.var) (fun _ => Ev.var) (fun _ => Ev.var))) caught solid_int (Tgt.name (by decide) fresh_name) (fun Pin z hz => .inr ⟨_, rfl, Et.cmp Ev.var Ev.var (op_gt _ _)⟩) (fun Pin z hz _ => Ev.var) (by omega))) (op_neL eqR_int _ _)) (by rw [List.map_id', hZ, leq_rfl]; rfl))) (ExS.nil fun c hc => .tail _ (.tail _ (.tail _ (.tail _ (.tail _ (.tail _ hc))))))
end
end Mine
end

section
open PySem PySem.W
set_option Elab.async false
set_option linter.unusedVariables false
set_option linter.unusedSectionVars false
set_option maxRecDepth 10000
set_option maxHeartbeats 4000000
open PyProof.Rows
namespace Mine
variable [Lim]
section
variable {prog : Program} {w : World} {D : Wd} {sc : Scope} {P : Addr → Prop} {Γ Γ' Θ : List Bnd} {M : List Mu} {n : Nat} {A : Around} {α β γ : Type} {r : Rel α} {r' : Rel β} {aL aR aF : Addr}
theorem foldl_step {α β : Type} {f : β → α → β} {b : β} {xs : List α} {i : Nat} {x : α} (h : xs[i]? = some x) : (xs.take (i + 1)).foldl f b = f ((xs.take i).foldl f b) x := foldl_take h
/-- what is behind the lambda -/
theorem next_rest {row : List Int} {ps : List (List Int)} {weak : Bool} (hf : D.fn "_law_refused" = some (aF, fRef)) (hl : D.fn "bisect_left" = some (aL, fBL)) (hr : D.fn "bisect_right" = some (aR, fBR)) (ok : okNexts row ps weak = true) :
    Ret prog w D (n + 2) scN P (nG row ps weak) [] (fNext.body.drop 2) (rList (rList rInt)) (nextsOf row ps weak) := by
  unfold okNexts at ok
  simp only [Bool.and_eq_true, decide_eq_true_eq, List.all_eq_true, List.mem_range] at ok
  obtain ⟨⟨⟨⟨⟨⟨k1, k2⟩, k3⟩, k4⟩, k5⟩, k6⟩, k7⟩ := ok
  have hps : ∀ i, i < ps.length → ps[i]? = some (ps.getD i []) ∧ ps.getD i [] ∈ ps := fun i hi => ⟨getD_at hi, List.mem_of_getElem? (getD_at (d := []) hi)⟩
  have hlr : ∀ o ∈ laidOf ps, inR row.length o = true := fun o ho => by
    obtain ⟨q, h1, h2⟩ := List.mem_flatMap.mp ho
    exact (k6 q h1).2 o h2
  refine Ret.step (Γ' := nG row ps weak) (M' := []) (Ex.for (r := rAct aL aR) (xs := [false, true]) (Γi := fun _ => nG row ps weak) (Mi := fun _ => []) (Δ := fun b => [⟨"act", rAct aL aR, b⟩]) Seen.self (Src.list solid_act (Ev.acts hl hr)) (fun b hb => hb) (fun i => Tgt.name (by decide) fresh_name) (fun i => rfl) (fun i b hb => next_for hf hl hr k3 k4 k5 b)) ?_
  refine Ret.tupleNew1 (r' := rList rInt) (r₂ := rInt) (ys := List.replicate row.length []) (z := 0) (Γ' := fun a => [⟨"nexts", rAddr, a⟩, ⟨"low", rInt, 0⟩, ⟨"turned", rKey, row⟩, ⟨"laid", rList rInt, laidOf ps⟩, ⟨"row", rList rInt, row⟩, ⟨"piles", rList (rList rInt), ps⟩, ⟨"weak", rBool, weak⟩]) Seen.self
    (EvNew.cast (CompRun.ev rfl solid_lint (run1 (r := rInt) (xs := row) (p := fun _ => true) (f := fun _ => []) (Δ := fun x => [⟨"place", rInt, x⟩]) (Γc := []) (Ev.seqL Ev.var) (by decide) caught solid_lint (Tgt.name (by decide) fresh_name) (fun Pin x hx => .inl ⟨rfl, rfl⟩) (fun Pin x hx _ => Ev.list (xs := []) trivial (by decide)) (by rw [sizeLine_eq]; omega))) ?_)
    (fun _ => Ev.int) solid_lint solid_int (by decide) (by decide) (by decide) (by decide) (fun a => grow2) fun a P' hP' => ?_
  · rw [List.filter_eq_self.mpr fun _ _ => rfl, List.map_const']
  refine Ret.step (Ex.for (r := rInt) (xs := rng 1 ((ps.length : Int) - 1).toNat) (Γi := fun i => ⟨"low", rInt, (lowAt ps i : Int)⟩ :: ⟨"nexts", rAddr, a⟩ :: ⟨"turned", rKey, row⟩ :: ⟨"laid", rList rInt, laidOf ps⟩ :: ⟨"row", rList rInt, row⟩ :: ⟨"piles", rList (rList rInt), ps⟩ :: ⟨"weak", rBool, weak⟩ :: []) (Mi := fun i => [⟨a, rList rInt, nxAt row ps weak i⟩]) (Δ := fun x => [⟨"k", rInt, x⟩]) Seen.self
    (Src.range (Ev.range2 Ev.int (Ev.len (Ev.root Ev.var) (by omega)) (by decide) (by omega) (by decide) (by omega))) (fun b hb => ?_) (fun i => Tgt.name (by decide) fresh_name) (fun i => rfl) (fun i x hx => ?_)) ?_
  · rcases List.mem_cons.mp hb with rfl | hb
    · exact .tail _ (.head _)
    rcases List.mem_cons.mp hb with rfl | hb
    · exact .head _
    · exact .tail _ (.tail _ hb)
  · have hxi := rng_get _ _ _ _ hx
    have hi : i < ps.length - 1 := by
      have := (rng_mem hx).2; omega
    obtain ⟨⟨q1, q2⟩, q3⟩ := k7 i hi
    obtain ⟨e0, m0⟩ := hps i (by omega)
    obtain ⟨e1, m1⟩ := hps (i + 1) (by omega)
    have hl0 : (ps.getD i []).length < 100 := (k6 _ m0).1
    have hl1 : (ps.getD (i + 1) []).length < 100 := (k6 _ m1).1
    simp only [List.singleton_append]
    have hlow1 : lowAt ps (i + 1) = lowAt ps i + (ps.getD i []).length := rfl
    -- pile, low
    refine ExS.cons (Γ' := ⟨"pile", rList rInt, ps.getD (i + 1) []⟩ :: ⟨"low", rInt, (lowAt ps (i + 1) : Int)⟩ :: ⟨"k", rInt, x⟩ :: ⟨"nexts", rAddr, a⟩ :: ⟨"turned", rKey, row⟩ :: ⟨"laid", rList rInt, laidOf ps⟩ :: ⟨"row", rList rInt, row⟩ :: ⟨"piles", rList (rList rInt), ps⟩ :: ⟨"weak", rBool, weak⟩ :: []) (M' := [⟨a, rList rInt, nxAt row ps weak i⟩]) rfl
      (Ex.tuple (bs := [⟨"pile", rList rInt, ps.getD (i + 1) []⟩, ⟨"low", rInt, (lowAt ps (i + 1) : Int)⟩]) (xs := [(_, _), (_, _)]) Seen.self
        ⟨Ev.idx (Ev.root Ev.var) Ev.var (by omega) (by omega) (by rw [show x.toNat = i + 1 by omega]; exact e1), Ev.cast (x := (lowAt ps i : Int) + ((ps.getD i []).length : Int)) (y := (lowAt ps (i + 1) : Int)) (Ev.bin Ev.var (Ev.len (Ev.root (Ev.idx (y := ps.getD i []) (Ev.root Ev.var) (Ev.bin Ev.var Ev.int (op_sub _ _)) (by omega) (by omega) (by rw [show (x - 1).toNat = i by omega]; exact e0))) (by omega)) (op_add _ _)) (by rw [hlow1]; omega), trivial⟩
        (fun b hb => ?_) rfl (by decide) (by decide) (by decide) (by decide) (fun b hb => ?_)) ?_
    · simp only [List.mem_cons, List.not_mem_nil, or_false] at hb
      rcases hb with rfl | rfl
      · exact solid_lint
      · exact solid_int
    · simp only [List.mem_cons, List.not_mem_nil, or_false] at hb
      rcases hb with rfl | rfl | rfl | rfl | rfl | rfl | rfl | rfl | rfl
      · exact .inl (.head _)
      · exact .inl (.tail _ (.head _))
      all_goals exact .inr ⟨by repeat (first | exact List.Mem.head _ | apply List.Mem.tail), by simp only [List.map_cons, List.map_nil]; decide⟩
    -- high
    refine ExS.cons (Γ' := ⟨"high", rOpt rInt, (hiAt ps (i + 1)).map fun h : Nat => (h : Int)⟩ :: ⟨"pile", rList rInt, ps.getD (i + 1) []⟩ :: ⟨"low", rInt, (lowAt ps (i + 1) : Int)⟩ :: ⟨"k", rInt, x⟩ :: ⟨"nexts", rAddr, a⟩ :: ⟨"turned", rKey, row⟩ :: ⟨"laid", rList rInt, laidOf ps⟩ :: ⟨"row", rList rInt, row⟩ :: ⟨"piles", rList (rList rInt), ps⟩ :: ⟨"weak", rBool, weak⟩ :: []) (M' := [⟨a, rList rInt, nxAt row ps weak i⟩]) rfl
      (Ex.assign (r := rOpt rInt) (y := (hiAt ps (i + 1)).map fun h : Nat => (h : Int)) Seen.self (Ev.cast (Ev.ite (Et.cmp (Ev.bin Ev.var Ev.int (op_add _ _)) (Ev.len (Ev.root Ev.var) (by omega)) (op_lt _ _)) (fun _ => (Ev.bin Ev.var (Ev.len (Ev.root Ev.var) (by omega)) (op_add _ _)).imp (imp_some _)) (fun _ => Ev.none.imp imp_none)) ?_) (solid_opt solid_int) (by decide) grow) ?_
    · unfold hiAt
      by_cases c : i + 1 + 1 < ps.length
      · rw [if_pos c, if_pos (by rw [decide_eq_true_eq]; omega)]; simp
      · rw [if_neg c, if_neg (by rw [decide_eq_true_eq]; omega)]; rfl
    -- the places
    refine ExS.cons (Γ' := ⟨"high", rOpt rInt, (hiAt ps (i + 1)).map fun h : Nat => (h : Int)⟩ :: ⟨"pile", rList rInt, ps.getD (i + 1) []⟩ :: ⟨"low", rInt, (lowAt ps (i + 1) : Int)⟩ :: ⟨"k", rInt, x⟩ :: ⟨"nexts", rAddr, a⟩ :: ⟨"turned", rKey, row⟩ :: ⟨"laid", rList rInt, laidOf ps⟩ :: ⟨"row", rList rInt, row⟩ :: ⟨"piles", rList (rList rInt), ps⟩ :: ⟨"weak", rBool, weak⟩ :: []) (M' := [⟨a, rList rInt, nxAt row ps weak (i + 1)⟩]) rfl
      (Ex.castM (Ex.for (r := rInt) (xs := ps.getD i []) (Γi := fun _ => ⟨"high", rOpt rInt, (hiAt ps (i + 1)).map fun h : Nat => (h : Int)⟩ :: ⟨"pile", rList rInt, ps.getD (i + 1) []⟩ :: ⟨"low", rInt, (lowAt ps (i + 1) : Int)⟩ :: ⟨"k", rInt, x⟩ :: ⟨"nexts", rAddr, a⟩ :: ⟨"turned", rKey, row⟩ :: ⟨"laid", rList rInt, laidOf ps⟩ :: ⟨"row", rList rInt, row⟩ :: ⟨"piles", rList (rList rInt), ps⟩ :: ⟨"weak", rBool, weak⟩ :: []) (Mi := fun j => [⟨a, rList rInt, ((ps.getD i []).take j).foldl (nstep row ps weak i) (nxAt row ps weak i)⟩]) (Δ := fun z => [⟨"place", rInt, z⟩]) Seen.self
        (Src.list solid_int (Ev.idx (Ev.root Ev.var) (Ev.bin Ev.var Ev.int (op_sub _ _)) (by omega) (by omega) (by rw [show (x - 1).toNat = i by omega]; exact e0))) (fun b hb => hb) (fun j => Tgt.name (by decide) fresh_name) (fun j => rfl) (fun j z hz => ?_)) (by simp only [List.take_length]; rfl)) (ExS.nil fun c hc => ?_)
    · have hzm := List.mem_of_getElem? hz
      rw [foldl_take hz]
      exact next_place hl hr k3 k5 hl1 (k6 _ m1).2 hlr ((k6 _ m0).2 z hzm) q1 q2 (by rw [foldl_len (nstep_len row ps weak i), nxAt_len]) (q3 z hzm)
    · rcases List.mem_cons.mp hc with rfl | hc
      · exact .tail _ (.tail _ (.head _))
      · exact .tail _ (.tail _ (.tail _ (.tail _ hc)))
  refine Ret.cast (Ret.own (m := ⟨a, rList rInt, nxAt row ps weak (rng 1 ((ps.length : Int) - 1).toNat).length⟩) (.head _) Ev.var) ?_
  unfold nextsOf
  rw [rng_length, show ((ps.length : Int) - 1).toNat = ps.length - 1 by omega]
end
end Mine
end

section
open PySem PySem.W
set_option Elab.async false
set_option linter.unusedVariables false
set_option linter.unusedSectionVars false
set_option maxRecDepth 10000
set_option maxHeartbeats 4000000
open PyProof.Rows
namespace Mine
variable [Lim]
theorem codeHd_keep {h h' : Heap} {c T : Addr} (x : CodeHd h c T) (k : Keep h h') : CodeHd h' c T := by
  obtain ⟨o, vs, file, tf, flags, tg, inF, text, tt, e, r1, r2, r⟩ := x
  exact ⟨o, vs, file, tf, flags, tg, inF, text, tt, k.get e (not_fra fun _ _ z => by rw [r2] at z; cases z), r1, r2, r⟩
theorem builtinsAt_keep {h h' : Heap} {mg : Str → Option Value} {T : Addr} (x : h.BuiltinsAt mg T) (k : Keep h h') : h'.BuiltinsAt mg T := by
  obtain ⟨bm, o, a, b, c, d, e, r1, r2, r3⟩ := x
  exact ⟨bm, o, a, b, c, d, k.get e (not_fra fun _ _ z => by rw [r3] at z; cases z), r1, r2, r3⟩
section
variable {prog : Program} {w : World} {D : Wd} {g : Heap} {sc : Scope} {env : Env} {P : Addr → Prop} {Γ Γ' Θ : List Bnd} {M : List Mu} {n : Nat} {A : Around} {s : Shared} {E : Value → Shared → Prop} {α β γ : Type} {r : Rel α} {r' : Rel β} {aL aR aF : Addr}
theorem next_block {row : List Int} {ps : List (List Int)} {weak : Bool} {cN T : Addr} (hf : D.fn "_law_refused" = some (aF, fRef)) (hl : D.fn "bisect_left" = some (aL, fBL)) (hr : D.fn "bisect_right" = some (aR, fBR)) (ok : okNexts row ps weak = true)
    (hL : Lv (n + 2) A) (hE : EnvOk fNext.scope env) (t : St A D g fNext.scope env P [⟨"row", rList rInt, row⟩, ⟨"piles", rList (rList rInt), ps⟩, ⟨"weak", rBool, weak⟩] [] s)
    (hcode : env.code = .ref cN) (C : CodeHd g cN T) (hb : g.BuiltinsAt D.mg T) (hT : s.heap.get? T = some (tabObj #[])) (hgT : g.get? T = none) (hsz : T < g.objs.size) :
    wpAny (model prog w) A (execs fNext.body env) (fun f s' => ∃ v ps', f = .ret v ∧ Keep (withTab g T ps') s'.heap ∧ Sh s s' ∧ (rList (rList rInt)).is (Out P g) s'.heap v (nextsOf row ps weak)) E s := by
  have hlen : (laidOf ps).length ≤ sizeLine := by
    unfold okNexts at ok
    simp only [Bool.and_eq_true, decide_eq_true_eq] at ok
    have := ok.1.1.2
    rw [sizeLine_eq]; omega
  refine Mine.step (R := fun s' => St A D g fNext.scope env P [⟨"laid", rList rInt, laidOf ps⟩, ⟨"row", rList rInt, row⟩, ⟨"piles", rList (rList rInt), ps⟩, ⟨"weak", rBool, weak⟩] [] s' ∧ Chx (Mns fNext.scope env []) s s')
    (Ex.assignComp (r' := rInt) (ys := laidOf ps) Seen.self (CompRun.cast (run2 (r := rList rInt) (r₂ := rInt) (xs := ps) (ys := fun p => p) (p := fun _ => true) (q := fun _ _ => true) (f := fun _ y => y) (Δ := fun x => [⟨"pile", rList rInt, x⟩]) (Δ₂ := fun _ y => [⟨"place", rInt, y⟩]) (Γc := [])
      (Ev.seqL Ev.var) (by decide) caught solid_int solid_int (Tgt.name (by decide) fresh_name) (fun Pin r hr => .inl ⟨rfl, rfl⟩) (fun Pin r hr _ => Ev.var) (fun r hr => Tgt.name (by decide) fresh_name) (fun Pin r hr _ y hy => .inl ⟨rfl, rfl⟩) (fun Pin r hr _ y hy _ => Ev.var) (by rw [flat_id]; exact hlen)) (flat_id ps)) solid_int (by decide) grow A g env s E hL hE t) fun s₁ q => ?_
  obtain ⟨t₁, c₁⟩ := q
  have hT₁ : s₁.heap.get? T = some (tabObj #[]) := by
    refine (c₁.2 T _ (fun m => ?_) hT).get (not_fra fun _ _ z => by cases z)
    rcases m with o | ⟨m, hm, _⟩
    · obtain ⟨x, hx, nf⟩ := t.fm.ta o
      rw [hT] at hx; cases hx
      exact nf _ rfl
    · cases hm
  have hrow : fNext.scope.names.lookup ("row" : Str) = some .cell := by decide
  refine Mine.step (R := fun s' => ∃ ps' P', St A D (withTab g T ps') scN env P' (nG row ps weak) [] s' ∧ Sh s s' ∧ (∀ b, P' b → P b ∨ g.get? b = none)) ?_ fun s₃ q => ?_
  · refine wpAny_Assign_Name (lam_make hE t₁ hrow (row := row) (.tail _ (.head _)) (fun b hb => ?_) hcode (codeHd_keep C t₁.keep) hT₁ hgT hsz (builtinsAt_keep hb t₁.keep) fun v s₂ ps' P' sh h1 h2 t₂ hk => ?_) rfl
    · simp only [List.mem_cons, List.not_mem_nil, or_false] at hb
      rcases hb with rfl | rfl | rfl | rfl
      · exact solid_lint
      · exact solid_lint
      · exact solid_list solid_lint
      · exact solid_bool
    · exact wpAny_mono (t₂.bind (Γ' := nG row ps weak) (envOk_freeRow hE hrow) (by decide) (.inr ⟨solid_key, hk⟩) grow) (fun _ s₃ q => ⟨rfl, ps', P', q.1, Sh.trans c₁.1 (Sh.trans sh q.2.1), h2⟩) fun _ _ e => e
  obtain ⟨ps', P', t₃, sh, h2⟩ := q
  refine wpAny_mono (next_rest hf hl hr ok A _ env s₃ E hL (envOk_freeRow hE hrow) t₃) (fun f s' z => ?_) fun _ _ e => e
  obtain ⟨v, e1, e2, e3, e4⟩ := z
  refine ⟨v, ps', e1, e2, Sh.trans sh e3, Rel.weak _ (fun b o p e => ?_) e4⟩
  rcases p with p | p
  · exact h2 b p
  · refine .inr ?_
    by_cases q : b = T
    · rw [q]; exact hgT
    · rw [withTab_ne q] at p; exact p
theorem next_call {nm : Str} {a : Addr} {row : List Int} {ps : List (List Int)} {weak : Bool} {cN T : Addr} {vs : List Value} (hx : D.fn nm = some (a, fNext)) (hf : D.fn "_law_refused" = some (aF, fRef)) (hl : D.fn "bisect_left" = some (aL, fBL)) (hr : D.fn "bisect_right" = some (aR, fBR)) (ok : okNexts row ps weak = true)
    (hL : Lv (n + 3) A) (hW : D.Ok (hid s.heap T)) (hF : Free A P s.heap) (ha : Are P s.heap vs [⟨rList rInt, row⟩, ⟨rList (rList rInt), ps⟩, ⟨rBool, weak⟩])
    (hfc : ∀ o fd, s.heap.get? a = some o → o.data = .func fd → fd.code = .ref cN) (C : CodeHd s.heap cN T) (hb : s.heap.BuiltinsAt D.mg T) (hT : s.heap.get? T = some (tabObj #[])) :
    wpAny (model prog w) A (call (.ref a) vs []) (fun v s' => ∃ ps', Keep (withTab (hid s.heap T) T ps') s'.heap ∧ Sh s s' ∧ (rList (rList rInt)).is P s'.heap v (nextsOf row ps weak)) E s := by
  obtain ⟨binds, hb1, hb2, hb3, hb4⟩ := pos_args (F := fNext) (names := ["row", "piles", "weak"]) rfl rfl (by decide) (by decide) vs [] s.heap P ha .nil
  have hPT : P T := by
    apply Classical.byContradiction
    intro hn
    obtain ⟨o, ho, nf⟩ := hF.ta T hn
    rw [hT] at ho; cases ho
    exact nf _ rfl
  refine call_fn' hx fits_next hL (hW.keep hid_keep) hF hb1 hb2 hb3 hb4 fun env s₁ P' hP' hE hfr t hs₁ hcode hk hP'' => ?_
  obtain ⟨o, fd, ho, hd, hec⟩ := hcode
  have t₁ := t.ghost hW (.of fun b o e => hk b o (of_hid e)) (fun b o => hid_of (t.own b o)) (fun m hm => (by cases hm)) (fun b hb => by
    simp only [bnds, List.mem_cons, List.not_mem_nil, or_false] at hb
    rcases hb with rfl | rfl | rfl
    · exact solid_lint
    · exact solid_list solid_lint
    · exact solid_bool)
  have neT : ∀ {b o}, s.heap.get? b = some o → o ≠ tabObj #[] → b ≠ T := fun e ne q => by rw [q, hT] at e; cases e; exact ne rfl
  refine wpAny_mono (next_block (n := n) hf hl hr ok (hL.deeper env) hE t₁ (hec.trans (hfc o fd ho hd)) ?_ ?_ (hk T _ hT) hid_none (by rw [hideAll_size]; exact Heap.lt_size hT)) (fun f s' z => ?_) fun _ _ e => e
  · obtain ⟨o, vs, file, tf, flags, tg, inF, text, tt, e, r1, r⟩ := C
    exact ⟨o, vs, file, tf, flags, tg, inF, text, tt, hid_ne e (neT e fun q => by rw [q] at r1; cases r1), r1, r⟩
  · obtain ⟨bm, o, a1, a2, a3, a4, e, r1, r⟩ := hb
    exact ⟨bm, o, a1, a2, a3, a4, hid_ne e (neT e fun q => by rw [q] at r1; cases r1), r1, r⟩
  · obtain ⟨v, ps', rfl, e1, e2, e3⟩ := z
    refine ⟨ps', e1, Sh.trans hs₁ e2, Rel.weak _ (fun b o p e => ?_) e3⟩
    rcases p with p | p
    · exact hP' b p
    · apply Classical.byContradiction
      intro hn
      obtain ⟨o', ho', nf⟩ := hF.ta b hn
      by_cases q : b = T
      · exact hn (q ▸ hPT)
      · rw [hid_ne ho' q] at p; cases p
end
end Mine
end

section
open PySem PySem.W
set_option Elab.async false
set_option linter.unusedVariables false
set_option linter.unusedSectionVars false
set_option maxRecDepth 10000
set_option maxHeartbeats 4000000
open PyProof.Rows
namespace Mine
noncomputable def picksOf (ps sm : List (List Int)) (size : Int) (weak : Bool) : List (List Int) := (rng 0 ((ps.length : Int)).toNat).map fun k => picks (atE ps k) (atE sm k) size weak
noncomputable def lines0 (pk : List (List Int)) (size : Int) : List (List Int) := (rng 0 (size + 2).toNat).map fun turn => pk.map fun places => places.getD turn.toNat 0
noncomputable def pairOf (rs : List (List Int)) (turn : Int) : List (List Int) := pick rs (some turn) (some (turn + 2)) none
noncomputable def colOf (pair : List (List Int)) (k : Int) : List Int := pair.map fun rise => rise.getD k.toNat 0
noncomputable def lowLine (pair : List (List Int)) (N : Nat) : List Int := (rng 0 ((N : Int)).toNat).map fun k => medLow (colOf pair k)
noncomputable def highLine (pair : List (List Int)) (N : Nat) : List Int := (rng 0 ((N : Int)).toNat).map fun k => medHigh (colOf pair k)
noncomputable def lstep (rs : List (List Int)) (N : Nat) (ls : List (List Int)) (turn : Int) : List (List Int) := ls ++ [lowLine (pairOf rs turn) N] ++ [highLine (pairOf rs turn) N]
noncomputable def linesOf (rs pk : List (List Int)) (N : Nat) : List (List Int) := (rng 0 ((rs.length : Int) - 1).toNat).foldl (lstep rs N) (lines0 pk rs.length)
noncomputable def inRs (rs : List (List Int)) (line : List Int) : Bool := rs.any fun x => leq (fun a b : Int => a == b) x line
noncomputable def backsOf (row : List Int) (pk : List (List Int)) : List (List Int) := pk.map fun places => places.map fun place => place - (row.length : Int)
noncomputable def columnOf (row : List Int) (rs : List (List Int)) (k : Int) : List Int := rs.map fun rise => rise.getD k.toNat 0 - (row.length : Int)
/-- what is to be seen of the values: then the law answers True -/
noncomputable def okLaw2 (row : List Int) (weak : Bool) (rs ps nx sm pk : List (List Int)) : Bool :=
  decide (row.length < 100) && okNexts row ps weak && okSums ps nx && decide (1 ≤ rs.length) && decide (rs.length ≤ 14) && decide (ps.length ≤ 20) && rs.all (fun r => decide (r.length = ps.length)) &&
  decide (sm.length = ps.length) && sm.all (fun l => decide (0 < l.length) && decide (l.length < 100) && (l.getD (l.length - 1) 0 == (rs.length : Int))) &&
  (rng 0 ((ps.length : Int)).toNat).all (fun k => okPicks (atE ps k) (atE sm k) rs.length weak) && pk.all (fun p => decide (p.length = rs.length + 2)) &&
  (linesOf rs pk ps.length).all (inRs rs) && (rng 0 ((rs.length : Int) - 1).toNat).all (fun turn => decide (0 < (pairOf rs turn).length) && decide ((pairOf rs turn).length < 64)) && (rng 0 ((ps.length : Int)).toNat).all (fun k => okCol row (columnOf row rs k) (atE (backsOf row pk) k))
noncomputable def okLaw (row : List Int) (weak : Bool) : Bool :=
  okRises (below row weak) row.length && okLaw2 row weak (rises (below row weak) row.length) (piles row weak row.length) (nextsOf row (piles row weak row.length) weak) (sums (piles row weak row.length) (nextsOf row (piles row weak row.length) weak))
    (picksOf (piles row weak row.length) (sums (piles row weak row.length) (nextsOf row (piles row weak row.length) weak)) (rises (below row weak) row.length).length weak)
noncomputable def fLaw : Fn := fnOfStm 17 (bindPos ["script"])
theorem fits_law [Lim] : FnFits fLaw := ⟨rfl, rfl, rfl, by decide, by decide⟩
variable [Lim]
theorem picks_len (pile sums : List Int) (size : Nat) (weak : Bool) : (picks pile sums size weak).length = size + 2 := by
  unfold picks
  cases weak <;> simp [rng_length] <;> omega
section
variable {prog : Program} {w : World} {D : Wd} {g : Heap} {sc : Scope} {env : Env} {P : Addr → Prop} {Γ Γ' Θ : List Bnd} {M : List Mu} {n : Nat} {A : Around} {s : Shared} {E : Value → Shared → Prop} {α β γ : Type} {r : Rel α} {r' : Rel β} {aL aR aF aRi aPi aSu aPk aCo aMl aMh aMd aQu : Addr}
theorem leq_nil_false {α β : Type} {f : α → β → Bool} {l : List α} (h : 0 < l.length) : leq f l [] = false := leq_len f l [] (by simp; intro q; rw [q] at h; cases h)
theorem flat_one (k : Nat) (x : Int) : (List.replicate k [x]).flatten = List.replicate k x := by
  induction k with
  | zero => rfl
  | succ k ih => rw [List.replicate_succ, List.flatten_cons, ih]; rfl
theorem lines_len (rs : List (List Int)) (N : Nat) : ∀ (xs : List Int) (l : List (List Int)), (xs.foldl (lstep rs N) l).length = l.length + 2 * xs.length
  | [], l => by simp
  | x :: xs, l => by rw [List.foldl_cons, lines_len rs N xs, lstep]; simp; omega
theorem atE_get {α : Type} {e : List (List α)} {k : Int} (h0 : 0 ≤ k) (h1 : k < e.length) : e[k.toNat]? = some (atE e k) := getD_at (by omega)
theorem Ev.callP {id : Str} {p pos : Pos} {es : List Expr} {bs : List Bv} {a : Addr} {F : Fn} {y : α} (hx : D.fn id = some (a, F)) (ha : EvA prog w D n sc Γ P es bs) (hc : CallsTo prog w D n P (.ref a) bs [] [] r y) (hne : es ≠ [] := by simp)
    (hg : sc.names.lookup id = some .globalImplicit := by decide) (hd : (id == ("__debug__" : Str)) = false := by decide) (ht : ∀ env, backTo pos (starEach es env) = es.map fun e => (false, eval e env) := by intro _; rfl) : Ev prog w D n sc Γ P (.Call (.Name id p) es [] pos) r y :=
  Ev.call (names := []) (ks := []) (kes := []) (bs := bs) (Ev.glob hg (D.fl _ _ _ hx) hd) hx ha trivial hc hne ht (fun _ => rfl) rfl
noncomputable abbrev lG (row : List Int) (weak : Bool) (rs ps nx : List (List Int)) : List Bnd := [⟨"nexts", rList (rList rInt), nx⟩, ⟨"size", rInt, (rs.length : Int)⟩, ⟨"rises", rList (rList rInt), rs⟩, ⟨"piles", rList (rList rInt), ps⟩, ⟨"row", rList rInt, row⟩, ⟨"weak", rBool, weak⟩]
theorem law_rest {row : List Int} {weak : Bool} {rs ps nx : List (List Int)} (hSu : D.fn "_law_sums" = some (aSu, fSum)) (hPk : D.fn "_law_picks" = some (aPk, fPick)) (hCo : D.fn "_law_column" = some (aCo, fCol)) (hl : D.fn "bisect_left" = some (aL, fBL)) (hr : D.fn "bisect_right" = some (aR, fBR))
    (hMl : D.fn "median_low" = some (aMl, fLow)) (hMh : D.fn "median_high" = some (aMh, fHigh)) (hMd : D.fn "median" = some (aMd, fMed)) (hQu : D.fn "quantiles" = some (aQu, fQ)) (hnx : nx.length = row.length) (h0 : 0 < row.length) (ok : okLaw2 row weak rs ps nx (sums ps nx) (picksOf ps (sums ps nx) rs.length weak) = true) :
    Ret prog w D (n + 3) fLaw.scope P (lG row weak rs ps nx) [] (fLaw.body.drop 3) rBool true := by
  unfold okLaw2 at ok
  simp only [Bool.and_eq_true, decide_eq_true_eq, List.all_eq_true] at ok
  obtain ⟨⟨⟨⟨⟨⟨⟨⟨⟨⟨⟨⟨⟨k1, k2⟩, k3⟩, k4⟩, k5⟩, k6⟩, k7⟩, k8⟩, k9⟩, k10⟩, k11⟩, k12⟩, k14⟩, k13⟩ := ok
  generalize hsm : sums ps nx = sm at *
  generalize hpk : picksOf ps sm rs.length weak = pk at *
  have hps : ∀ k : Int, 0 ≤ k → k < ps.length → ps[k.toNat]? = some (atE ps k) := fun k h0 h1 => atE_get h0 h1
  have hsm' : ∀ k : Int, 0 ≤ k → k < ps.length → sm[k.toNat]? = some (atE sm k) := fun k h0 h1 => atE_get h0 (by omega)
  have hpl : pk.length = ps.length := by rw [← hpk]; unfold picksOf; rw [List.length_map, rng_length]; omega
  have hr0 : rs[(0 : Int).toNat]? = some (rs.getD 0 []) := getD_at (by simp; omega)
  have hrl : ∀ q ∈ rs, q.length = ps.length := k7
  unfold lG
  refine Ret.step (Ex.ifNot Seen.self (Et.cast (Et.or (Et.cast (y := false) (Et.cmp (Ev.root Ev.var) (Ev.root (Ev.list (xs := ([] : List (List Int))) (r := rList rInt) trivial (by decide))) (op_eqL (EqR.list eqR_int) _ _)) (leq_nil_false (by omega))) fun _ =>
    Et.cast (y := false) (Et.cmp (Ev.len (Ev.root Ev.var) (by omega)) (Ev.len (Ev.root (Ev.idx (k := 0) (Ev.root Ev.var) Ev.int (by decide) (by decide) hr0)) (by rw [hrl _ (List.mem_of_getElem? hr0)]; omega)) (op_ne _ _)) (by rw [hrl _ (List.mem_of_getElem? hr0), bne_self_eq_false])) rfl)) ?_
  -- sums
  refine Ret.step (Γ' := ⟨"sums", rList (rList rInt), sm⟩ :: ⟨"nexts", rList (rList rInt), nx⟩ :: ⟨"size", rInt, (rs.length : Int)⟩ :: ⟨"rises", rList (rList rInt), rs⟩ :: ⟨"piles", rList (rList rInt), ps⟩ :: ⟨"row", rList rInt, row⟩ :: ⟨"weak", rBool, weak⟩ :: []) (M' := []) (Ex.assign (r := rList (rList rInt)) (y := sm) Seen.self (Ev.callP (bs := [⟨rList (rList rInt), ps⟩, ⟨rList (rList rInt), nx⟩]) hSu ⟨Ev.var, Ev.var, trivial⟩ (hsm ▸ sum_call hSu k3)) (solid_list solid_lint) (by decide) grow) ?_
  refine Ret.step (Ex.ifNot Seen.self (Et.cast (y := false) (Et.cmp (Ev.root (Ev.compAll (r := rList rInt) (r' := rInt) (xs := sm) (f := fun l => l.getD (l.length - 1) 0) (Δ := fun x => [⟨"line", rList rInt, x⟩]) (Γc := []) (Ev.seqL Ev.var) caught solid_int (Tgt.name (by decide) fresh_name)
    (fun Pin l hlm => Ev.idxN (k := -1) (Ev.root Ev.var) (Ev.cast (y := -1) (Ev.neg Ev.int) rfl) (by decide) (by have := (k9 l hlm).1.1; omega) (by decide) (by have := (k9 l hlm).1.1; rw [show (-1 + (l.length : Int)).toNat = l.length - 1 by omega]; exact getD_at (by omega))) (by omega)))
    (Ev.root (Ev.bin (Ev.root (Ev.list (xs := [(rs.length : Int)]) ⟨Ev.var, trivial⟩ (by decide))) (Ev.len (Ev.root Ev.var) (by omega)) (op_mulL rInt _ _ (by omega) (by omega) (by simp; omega)))) (op_neL eqR_int _ _)) ?_)) ?_
  · rw [flat_one, Int.toNat_natCast, ← k8, show (sm.map fun l => l.getD (l.length - 1) 0) = List.replicate sm.length (rs.length : Int) from List.eq_replicate_iff.mpr ⟨List.length_map _, fun b hb => ?_⟩, leq_rfl]
    · rfl
    · obtain ⟨l, hl, rfl⟩ := List.mem_map.mp hb
      exact eq_of_beq (k9 l hl).2
  -- picks
  refine Ret.step (Γ' := ⟨"picks", rList (rList rInt), pk⟩ :: ⟨"sums", rList (rList rInt), sm⟩ :: ⟨"nexts", rList (rList rInt), nx⟩ :: ⟨"size", rInt, (rs.length : Int)⟩ :: ⟨"rises", rList (rList rInt), rs⟩ :: ⟨"piles", rList (rList rInt), ps⟩ :: ⟨"row", rList rInt, row⟩ :: ⟨"weak", rBool, weak⟩ :: []) (M' := [])
    (Ex.assignComp (r' := rList rInt) (ys := pk) Seen.self (CompRun.cast (run1 (r := rInt) (xs := rng 0 ((ps.length : Int)).toNat) (p := fun _ => true) (f := fun k => picks (atE ps k) (atE sm k) rs.length weak) (Δ := fun x => [⟨"k", rInt, x⟩])
      (Γc := [⟨"piles", rList (rList rInt), ps⟩, ⟨"sums", rList (rList rInt), sm⟩, ⟨"size", rInt, (rs.length : Int)⟩, ⟨"weak", rBool, weak⟩])
      (Ev.rseq (Ev.range1 (Ev.len (Ev.root Ev.var) (by omega)) (by omega) (by omega))) (by decide) caught solid_lint (Tgt.name (by decide) fresh_name) (fun Pin x hx => .inl ⟨rfl, rfl⟩) (fun Pin k hk _ => ?_) (by rw [rng_length, sizeLine_eq]; omega)) (by rw [List.filter_eq_self.mpr fun _ _ => rfl, ← hpk]; rfl)) solid_lint (by decide) grow) ?_
  · obtain ⟨q0, q1⟩ := rng_mem' hk
    exact Ev.callP (bs := [⟨rRoot rInt, atE ps k⟩, ⟨rRoot rInt, atE sm k⟩, ⟨rInt, (rs.length : Int)⟩, ⟨rBool, weak⟩]) hPk ⟨Ev.root (Ev.idx (Ev.root Ev.var) Ev.var q0 (by omega) (hps k q0 (by omega))), Ev.root (Ev.idx (Ev.root Ev.var) Ev.var q0 (by omega) (hsm' k q0 (by omega))), Ev.var, Ev.var, trivial⟩ (pick_call hPk hl hr (k10 k hk))
  -- lines
  refine Ret.comp (r' := rList rInt) (ys := lines0 pk rs.length) (Γ' := fun a => ⟨"lines", rAddr, a⟩ :: ⟨"picks", rList (rList rInt), pk⟩ :: ⟨"size", rInt, (rs.length : Int)⟩ :: ⟨"rises", rList (rList rInt), rs⟩ :: ⟨"piles", rList (rList rInt), ps⟩ :: ⟨"row", rList rInt, row⟩ :: ⟨"weak", rBool, weak⟩ :: []) Seen.self (CompRun.cast (run1 (r := rInt) (xs := rng 0 ((rs.length : Int) + 2).toNat) (p := fun _ => true) (f := fun turn => pk.map fun places => places.getD turn.toNat 0) (Δ := fun x => [⟨"turn", rInt, x⟩])
      (Γc := [⟨"picks", rList (rList rInt), pk⟩]) (Ev.rseq (Ev.range1 (Ev.bin Ev.var Ev.int (op_add _ _)) (by omega) (by omega))) (by decide) caught solid_lint (Tgt.name (by decide) fresh_name) (fun Pin x hx => .inl ⟨rfl, rfl⟩) (fun Pin turn ht _ => ?_) (by rw [rng_length, sizeLine_eq]; omega)) (by rw [List.filter_eq_self.mpr fun _ _ => rfl]; rfl)) solid_lint (by decide) (fun a b hb => ?_) fun a P' hP' => ?_
  · obtain ⟨q0, q1⟩ := rng_mem' ht
    exact Ev.compAll (r := rList rInt) (r' := rInt) (xs := pk) (f := fun places => places.getD turn.toNat 0) (Δ := fun x => [⟨"places", rList rInt, x⟩]) (Γc := [⟨"turn", rInt, turn⟩]) (Ev.seqL Ev.var) caught solid_int (Tgt.name (by decide) fresh_name)
      (fun Pin places hp => Ev.idx (Ev.root Ev.var) Ev.var q0 (by omega) (getD_at (by rw [k11 places hp]; omega))) (by omega)
  · simp only [List.mem_cons, List.not_mem_nil, or_false] at hb
    rcases hb with rfl | rfl | rfl | rfl | rfl | rfl | rfl
    · exact .inl rfl
    all_goals exact .inr ⟨by repeat (first | exact List.Mem.head _ | apply List.Mem.tail), by dsimp only; decide⟩
  have hll : ∀ j, (((rng 0 ((rs.length : Int) - 1).toNat).take j).foldl (lstep rs ps.length) (lines0 pk rs.length)).length ≤ 100 := fun j => by
    rw [lines_len]
    have e1 : (lines0 pk rs.length).length = rs.length + 2 := by unfold lines0; rw [List.length_map, rng_length]; omega
    have e2 := List.length_take_le j (rng 0 ((rs.length : Int) - 1).toNat)
    have e3 : (((rng 0 ((rs.length : Int) - 1).toNat).take j)).length ≤ rs.length := by
      rw [List.length_take, rng_length]; omega
    omega
  refine Ret.step (Γ' := ⟨"lines", rAddr, a⟩ :: ⟨"picks", rList (rList rInt), pk⟩ :: ⟨"size", rInt, (rs.length : Int)⟩ :: ⟨"rises", rList (rList rInt), rs⟩ :: ⟨"piles", rList (rList rInt), ps⟩ :: ⟨"row", rList rInt, row⟩ :: ⟨"weak", rBool, weak⟩ :: []) (M' := [⟨a, rList rInt, linesOf rs pk ps.length⟩]) (Ex.castM (Ex.for (r := rInt) (xs := rng 0 ((rs.length : Int) - 1).toNat) (Γi := fun _ => ⟨"lines", rAddr, a⟩ :: ⟨"picks", rList (rList rInt), pk⟩ :: ⟨"size", rInt, (rs.length : Int)⟩ :: ⟨"rises", rList (rList rInt), rs⟩ :: ⟨"piles", rList (rList rInt), ps⟩ :: ⟨"row", rList rInt, row⟩ :: ⟨"weak", rBool, weak⟩ :: []) (Mi := fun j => [⟨a, rList rInt, ((rng 0 ((rs.length : Int) - 1).toNat).take j).foldl (lstep rs ps.length) (lines0 pk rs.length)⟩]) (Δ := fun x => [⟨"turn", rInt, x⟩]) Seen.self
    (Src.range (Ev.range1 (Ev.bin Ev.var Ev.int (op_sub _ _)) (by omega) (by omega))) (fun b hb => hb) (fun j => Tgt.name (by decide) fresh_name) (fun j => rfl) (fun j x hx => ?_)) (by rw [List.take_length]; rfl)) ?_
  · rw [foldl_take hx]
    have hcl := hll j
    generalize ((rng 0 ((rs.length : Int) - 1).toNat).take j).foldl (lstep rs ps.length) (lines0 pk rs.length) = cur at *
    have hx01 := rng_mem hx
    have hpm : ∀ q ∈ pairOf rs x, q.length = ps.length := fun q hq => hrl q (pick_mem hq)
    have hpl2 : 0 < (pairOf rs x).length ∧ (pairOf rs x).length < 64 := k14 x (List.mem_of_getElem? hx)
    have hcolE : ∀ {Γ : List Bnd} {sc' sc'' : Scope} {Pin : Addr → Prop} {k : Int} {p1 p2 p3 p4 p5 p6 : Pos}, (⟨"pair", rList (rList rInt), pairOf rs x⟩ : Bnd) ∈ Γ → (⟨"k", rInt, k⟩ : Bnd) ∈ Γ → 0 ≤ k → k < ps.length → Fits sc' sc'' → Caught Γ sc'' [⟨"k", rInt, k⟩] → Stor sc'' "rise" →
        Ev prog w D (n + 3) sc' Γ Pin (.ListComp (.Subscript (.Name "rise" p1) (.Name "k" p2) p3) [⟨.Name "rise" p4, .Name "pair" p5, [], 0⟩] sc'' p6) (rList rInt) (colOf (pairOf rs x) k) := fun m1 m2 h0 h1 hfit hcg hst =>
      Ev.compAll (r := rList rInt) (r' := rInt) (xs := pairOf rs x) (f := fun rise => rise.getD _ 0) (Δ := fun x => [⟨"rise", rList rInt, x⟩]) (Γc := [_]) (Ev.seqL (Ev.var m1)) hcg solid_int (Tgt.name hst fresh_name) (fun Pin q hq => Ev.idx (Ev.root Ev.var) (Ev.var (.tail _ (.head _))) h0 (by omega) (getD_at (by rw [hpm q hq]; omega))) (by omega) hfit
    have hcl3 : ∀ k, (colOf (pairOf rs x) k).length = (pairOf rs x).length := fun k => List.length_map _
    simp only [List.singleton_append]
    refine ExS.cons (Γ' := ⟨"pair", rList (rList rInt), pairOf rs x⟩ :: ⟨"turn", rInt, x⟩ :: ⟨"lines", rAddr, a⟩ :: ⟨"picks", rList (rList rInt), pk⟩ :: ⟨"size", rInt, (rs.length : Int)⟩ :: ⟨"rises", rList (rList rInt), rs⟩ :: ⟨"piles", rList (rList rInt), ps⟩ :: ⟨"row", rList rInt, row⟩ :: ⟨"weak", rBool, weak⟩ :: []) (M' := [⟨a, rList rInt, cur⟩]) rfl (Ex.assign (r := rList (rList rInt)) (y := pairOf rs x) Seen.self (Ev.slice (lo := some x) (hi := some (x + 2)) (st := none) (Ev.root Ev.var) Ev.var (Ev.bin Ev.var Ev.int (op_add _ _)) trivial (by decide) (by rw [sizeLine_eq]; omega) (fun _ _ => rfl)) (solid_list solid_lint) (by decide) grow) ?_
    refine ExS.cons (Γ' := ⟨"pair", rList (rList rInt), pairOf rs x⟩ :: ⟨"turn", rInt, x⟩ :: ⟨"lines", rAddr, a⟩ :: ⟨"picks", rList (rList rInt), pk⟩ :: ⟨"size", rInt, (rs.length : Int)⟩ :: ⟨"rises", rList (rList rInt), rs⟩ :: ⟨"piles", rList (rList rInt), ps⟩ :: ⟨"row", rList rInt, row⟩ :: ⟨"weak", rBool, weak⟩ :: []) (M' := [⟨a, rList rInt, cur ++ [lowLine (pairOf rs x) ps.length]⟩]) rfl (Ex.append (M₁ := []) (M₂ := []) (m := ⟨a, rList rInt, cur⟩) (y := lowLine (pairOf rs x) ps.length) rfl Seen.self Ev.var
      (Ev.compAll (r := rInt) (r' := rInt) (xs := rng 0 ((ps.length : Int)).toNat) (f := fun k => medLow (colOf (pairOf rs x) k)) (Δ := fun x => [⟨"k", rInt, x⟩]) (Γc := [⟨"pair", rList (rList rInt), pairOf rs x⟩]) (Ev.rseq (Ev.range1 (Ev.len (Ev.root Ev.var) (by omega)) (by omega) (by omega))) caught solid_int (Tgt.name (by decide) fresh_name)
        (fun Pin k hk => Ev.call1 hMl (Ev.root (hcolE (.tail _ (.head _)) (.head _) (rng_mem' hk).1 (by have := (rng_mem' hk).2; omega) (by decide) caught (by decide))) (low_call hMl (by rw [hcl3]; exact hpl2.1) (by rw [hcl3]; exact hpl2.2))) (by rw [rng_length]; omega))
      (by show cur.length ≤ _; rw [sizeLine_eq]; omega) (fun b hb => hb)) ?_
    refine ExS.cons (Γ' := ⟨"lines", rAddr, a⟩ :: ⟨"picks", rList (rList rInt), pk⟩ :: ⟨"size", rInt, (rs.length : Int)⟩ :: ⟨"rises", rList (rList rInt), rs⟩ :: ⟨"piles", rList (rList rInt), ps⟩ :: ⟨"row", rList rInt, row⟩ :: ⟨"weak", rBool, weak⟩ :: []) (M' := [⟨a, rList rInt, lstep rs ps.length cur x⟩]) rfl (Ex.append (M₁ := []) (M₂ := []) (m := ⟨a, rList rInt, cur ++ [lowLine (pairOf rs x) ps.length]⟩) (y := highLine (pairOf rs x) ps.length) rfl Seen.self Ev.var
      (Ev.compAll (r := rInt) (r' := rInt) (xs := rng 0 ((ps.length : Int)).toNat) (f := fun k => medHigh (colOf (pairOf rs x) k)) (Δ := fun x => [⟨"k", rInt, x⟩]) (Γc := [⟨"pair", rList (rList rInt), pairOf rs x⟩]) (Ev.rseq (Ev.range1 (Ev.len (Ev.root Ev.var) (by omega)) (by omega) (by omega))) caught solid_int (Tgt.name (by decide) fresh_name)
        (fun Pin k hk => Ev.call1 hMh (Ev.root (hcolE (.tail _ (.head _)) (.head _) (rng_mem' hk).1 (by have := (rng_mem' hk).2; omega) (by decide) caught (by decide))) (high_call hMh (by rw [hcl3]; exact hpl2.1) (by rw [hcl3]; exact hpl2.2))) (by rw [rng_length]; omega))
      (by show (cur ++ _).length ≤ _; rw [sizeLine_eq, List.length_append]; simp; omega) (fun b hb => .tail _ (.tail _ hb))) (ExS.nil fun b hb => hb)
  have hlen : (linesOf rs pk ps.length).length ≤ 100 := by
    have := hll ((rng 0 ((rs.length : Int) - 1).toNat).length)
    rw [List.take_length] at this; exact this
  generalize hls : linesOf rs pk ps.length = ls at *
  have own := seen_own (Γ := ⟨"lines", rAddr, a⟩ :: ⟨"picks", rList (rList rInt), pk⟩ :: ⟨"size", rInt, (rs.length : Int)⟩ :: ⟨"rises", rList (rList rInt), rs⟩ :: ⟨"piles", rList (rList rInt), ps⟩ :: ⟨"row", rList rInt, row⟩ :: ⟨"weak", rBool, weak⟩ :: []) (M := [⟨a, rList rInt, ls⟩]) (nm := "lines") (m := ⟨a, rList rInt, ls⟩) (.head _) (.head _)
  refine Ret.step (Ex.ifNot own (Et.cast (y := false) (Et.cmp (Ev.root (Ev.comp1 (r := rList rInt) (r' := rList rInt) (xs := ls) (p := fun l => !inRs rs l) (f := fun l => l) (Δ := fun l => [⟨"line", rList rInt, l⟩]) (Γc := [⟨"rises", rList (rList rInt), rs⟩]) (Ev.seq Ev.var) caught solid_lint (Tgt.name (by decide) fresh_name)
    (fun Pin l hl => .inr ⟨_, rfl, Et.cmp Ev.var (Ev.root Ev.var) (op_notIn (EqR.list eqR_int) (Fun.list fun_int) l rs)⟩) (fun Pin l hl _ => Ev.var) (by omega))) (Ev.root (Ev.list (xs := ([] : List (List Int))) (r := rList rInt) trivial (by decide))) (op_neL (EqR.list eqR_int) _ _)) ?_)) ?_
  · rw [List.map_id', List.filter_eq_nil_iff.mpr fun l hl => by rw [k12 l hl]; decide]; rfl
  -- backs
  refine Ret.step (Γ' := ⟨"backs", rList (rList rInt), backsOf row pk⟩ :: ⟨"size", rInt, (rs.length : Int)⟩ :: ⟨"rises", rList (rList rInt), rs⟩ :: ⟨"piles", rList (rList rInt), ps⟩ :: ⟨"row", rList rInt, row⟩ :: ⟨"weak", rBool, weak⟩ :: []) (M' := [⟨a, rList rInt, ls⟩])
    (Ex.assignComp (r' := rList rInt) (ys := backsOf row pk) Seen.self (CompRun.cast (run1 (r := rList rInt) (xs := pk) (p := fun _ => true) (f := fun places => places.map fun place => place - (row.length : Int)) (Δ := fun x => [⟨"places", rList rInt, x⟩]) (Γc := [⟨"row", rList rInt, row⟩])
      (Ev.seqL Ev.var) (by decide) caught solid_lint (Tgt.name (by decide) fresh_name) (fun Pin x hx => .inl ⟨rfl, rfl⟩) (fun Pin places hp _ => Ev.compAll (r := rInt) (r' := rInt) (xs := places) (f := fun place => place - (row.length : Int)) (Δ := fun x => [⟨"place", rInt, x⟩]) (Γc := [⟨"row", rList rInt, row⟩]) (Ev.seqL Ev.var) caught solid_int (Tgt.name (by decide) fresh_name)
        (fun Pin x hx => Ev.bin Ev.var (Ev.len (Ev.root Ev.var) (by omega)) (op_sub _ _)) (by rw [k11 places hp]; omega)) (by rw [sizeLine_eq]; omega)) (by rw [List.filter_eq_self.mpr fun _ _ => rfl]; rfl)) solid_lint (by decide) (fun b hb => ?_)) ?_
  · simp only [List.mem_cons, List.not_mem_nil, or_false] at hb
    rcases hb with rfl | rfl | rfl | rfl | rfl | rfl
    · exact .inl rfl
    all_goals exact .inr ⟨by repeat (first | exact List.Mem.head _ | apply List.Mem.tail), by dsimp only; decide⟩
  have hbl : (backsOf row pk).length = ps.length := by unfold backsOf; rw [List.length_map]; exact hpl
  refine Ret.ret Seen.self (Ev.cast (Ev.cmp Ev.bool (Ev.root (Ev.compAll (r := rInt) (r' := rBool) (xs := rng 0 ((ps.length : Int)).toNat) (f := fun _ => true) (Δ := fun x => [⟨"k", rInt, x⟩]) (Γc := [⟨"backs", rList (rList rInt), backsOf row pk⟩, ⟨"rises", rList (rList rInt), rs⟩, ⟨"row", rList rInt, row⟩])
    (Ev.rseq (Ev.range1 (Ev.len (Ev.root Ev.var) (by omega)) (by omega) (by omega))) caught solid_bool (Tgt.name (by decide) fresh_name) (fun Pin k hk => ?_) (by rw [rng_length]; omega))) (op_notIn eqR_bool fun_bool _ _)) ?_)
  · obtain ⟨q0, q1⟩ := rng_mem' hk
    refine Ev.callP (bs := [⟨rRoot rInt, row⟩, ⟨rRoot rInt, columnOf row rs k⟩, ⟨rRoot rInt, atE (backsOf row pk) k⟩]) hCo ⟨Ev.root Ev.var, Ev.root (Ev.compAll (r := rList rInt) (r' := rInt) (xs := rs) (f := fun rise => rise.getD k.toNat 0 - (row.length : Int)) (Δ := fun x => [⟨"rise", rList rInt, x⟩]) (Γc := [⟨"k", rInt, k⟩, ⟨"row", rList rInt, row⟩]) (Ev.seqL Ev.var) caught solid_int (Tgt.name (by decide) fresh_name)
      (fun Pin q hq => Ev.bin (Ev.idx (Ev.root Ev.var) Ev.var q0 (by omega) (getD_at (by rw [hrl q hq]; omega))) (Ev.len (Ev.root Ev.var) (by omega)) (op_sub _ _)) (by omega)), Ev.root (Ev.idx (Ev.root Ev.var) Ev.var q0 (by omega) (atE_get q0 (by omega))), trivial⟩ (col_call hCo hMl hMh hMd hQu (k13 k hk))
  · rw [in_true fun x hx => by obtain ⟨_, _, e⟩ := List.mem_map.mp hx; exact e.symm]; rfl
end
end Mine
end

section
open PySem PySem.W
set_option Elab.async false
set_option linter.unusedVariables false
set_option linter.unusedSectionVars false
set_option maxRecDepth 10000
set_option maxHeartbeats 4000000
open PyProof.Rows
namespace Mine
noncomputable def rowS (script : List Int) : List Int := pick script none (some 2) none ++ [3, 4, 1, 2, 2, 5, 4] ++ pick script (some 2) (some 3) none
noncomputable def weakS (script : List Int) : Bool := (script.length : Int).fmod 2 == 0
variable [Lim]
theorem nextsOf_len (row : List Int) (ps : List (List Int)) (weak : Bool) : (nextsOf row ps weak).length = row.length := nxAt_len row ps weak _
section
variable {prog : Program} {w : World} {D : Wd} {g : Heap} {sc : Scope} {env : Env} {P : Addr → Prop} {Γ Γ' Θ : List Bnd} {M : List Mu} {n : Nat} {A : Around} {s : Shared} {E : Value → Shared → Prop} {α β γ : Type} {r : Rel α} {r' : Rel β} {aL aR aF aRi aPi aNx aSu aPk aCo aMl aMh aMd aQu : Addr}
theorem tab_kept {T : Addr} {s s' : Shared} (t : St A D g sc env P Γ [] s) (hT : s.heap.get? T = some (tabObj #[])) (c : Chx (Mns sc env []) s s') : s'.heap.get? T = some (tabObj #[]) := by
  refine (c.2 T _ (fun m => ?_) hT).get (not_fra fun _ _ z => by cases z)
  rcases m with o | ⟨m, hm, _⟩
  · obtain ⟨x, hx, nf⟩ := t.fm.ta o
    rw [hT] at hx; cases hx
    exact nf _ rfl
  · cases hm
theorem Ex.stepT {T : Addr} {st : Stmt} {sts : List Stmt} {Q : Flow → Shared → Prop} (h : Ex prog w D n sc P Γ [] st Γ' []) (hL : Lv n A) (hE : EnvOk sc env) (t : St A D g sc env P Γ [] s) (hT : s.heap.get? T = some (tabObj #[]))
    (k : ∀ s', St A D g sc env P Γ' [] s' → s'.heap.get? T = some (tabObj #[]) → Sh s s' → wpAny (model prog w) A (execs sts env) Q E s') : wpAny (model prog w) A (execs (st :: sts) env) Q E s :=
  Mine.step (R := fun s' => St A D g sc env P Γ' [] s' ∧ Chx (Mns sc env []) s s') (h A g env s E hL hE t) fun s' q => k s' q.1 (tab_kept t hT q.2) q.2.1
/-- the table at T grew: all else is as it was -/
theorem St.grown {T : Addr} {ps' : Array Value} {s' : Shared} (t : St A D g sc env P Γ [] s) (hT : s.heap.get? T = some (tabObj #[])) (hgT : g.get? T = none) (hPT : P T) (sh : Sh s s') (k : Keep (withTab (hid s.heap T) T ps') s'.heap) : St A D g sc env P Γ [] s' := by
  have kk : ∀ b o, ¬ b = T → s.heap.get? b = some o → Kept s'.heap b o := fun b o hb e => k b o ((withTab_ne hb).trans (hid_ne e hb))
  have nsT : ∀ {L m}, s.heap.Ns L m → L ≠ T := fun {L m} hn q => by
    obtain ⟨o, es, ep, ho, hd, _⟩ := hn
    rw [q, hT] at ho; cases ho; cases hd
  have cellT : ∀ {d v}, s.heap.IsCell d v → d ≠ T := fun {d v} hn q => by
    obtain ⟨o, ho, hd⟩ := hn
    rw [q, hT] at ho; cases ho; cases hd
  obtain ⟨h', tk, rfl⟩ := sh
  refine t.step (X := fun b => b = T) (fun b x => x ▸ hgT) (fun b o x p kd e => ?_) kk (fun b x np => absurd (x ▸ hPT) np) (fun L m x np _ => absurd (x ▸ hPT) np) ⟨?_, fun x c hx hc => ?_⟩ (fun b hb => ?_) (fun m hm => (by cases hm)) List.nodup_nil
  · rw [x, hT] at e; cases e; exact tab0_not_kd kd
  · obtain ⟨m, hm⟩ := t.fm.ns
    exact ⟨m, Kept.ns hm fun o ho => kk _ o (nsT hm) ho⟩
  · obtain ⟨v, hv⟩ := t.fm.cells x c hx hc
    exact ⟨v, Kept.cell hv fun o ho => kk _ o (cellT hv) ho⟩
  · obtain ⟨v, a, c⟩ := t.vars b hb
    refine ⟨v, ?_, c⟩
    rcases a with ⟨a, m, hm, hv⟩ | ⟨a, d, hd, hv⟩
    · exact .inl ⟨a, m, Kept.ns hm fun o ho => kk _ o (nsT hm) ho, hv⟩
    · exact .inr ⟨a, d, hd, Kept.cell hv fun o ho => kk _ o (cellT hv) ho⟩
theorem law_block {script : List Int} {cN T : Addr} (hRi : D.fn "_law_rises" = some (aRi, fRise)) (hPi : D.fn "_law_piles" = some (aPi, fPile)) (hNx : D.fn "_law_nexts" = some (aNx, fNext)) (hRe : D.fn "_law_refused" = some (aF, fRef))
    (hSu : D.fn "_law_sums" = some (aSu, fSum)) (hPk : D.fn "_law_picks" = some (aPk, fPick)) (hCo : D.fn "_law_column" = some (aCo, fCol)) (hl : D.fn "bisect_left" = some (aL, fBL)) (hr : D.fn "bisect_right" = some (aR, fBR))
    (hMl : D.fn "median_low" = some (aMl, fLow)) (hMh : D.fn "median_high" = some (aMh, fHigh)) (hMd : D.fn "median" = some (aMd, fMed)) (hQu : D.fn "quantiles" = some (aQu, fQ))
    (hsl : script.length ≤ 63) (ok : okLaw (rowS script) (weakS script) = true) (hL : Lv (n + 3) A) (hE : EnvOk fLaw.scope env) (t : St A D g fLaw.scope env P [⟨"script", rList rInt, script⟩] [] s)
    (hfc : ∃ o fd, g.get? aNx = some o ∧ o.data = .func fd ∧ fd.code = .ref cN) (C : CodeHd g cN T) (hb : g.BuiltinsAt D.mg T) (hT : s.heap.get? T = some (tabObj #[])) (hgT : g.get? T = none) (hsz : T < g.objs.size) :
    wpAny (model prog w) A (execs fLaw.body env) (fun f s' => ∃ ps', f = .ret (.bool true) ∧ Keep (withTab g T ps') s'.heap ∧ Sh s s') E s := by
  unfold okLaw at ok
  rw [Bool.and_eq_true] at ok
  obtain ⟨okR, ok2⟩ := ok
  have okN : okNexts (rowS script) (piles (rowS script) (weakS script) (rowS script).length) (weakS script) = true := by
    unfold okLaw2 at ok2
    simp only [Bool.and_eq_true] at ok2
    exact ok2.1.1.1.1.1.1.1.1.1.1.1.1.2
  have hrl : (rowS script).length < 100 := by
    unfold okLaw2 at ok2
    simp only [Bool.and_eq_true, decide_eq_true_eq] at ok2
    exact ok2.1.1.1.1.1.1.1.1.1.1.1.1.1
  have hlenE : (rowS script).length = (pick script none (some 2) none).length + 7 + (pick script (some 2) (some 3) none).length := by unfold rowS; rw [List.length_append, List.length_append]; rfl
  have hr0 : 0 < (rowS script).length := by omega
  have hp1 : (pick script none (some 2) none).length ≤ 100 := by omega
  have hp2 : (pick script (some 2) (some 3) none).length ≤ 100 := by omega
  have hPT : P T := by
    apply Classical.byContradiction
    intro hn
    obtain ⟨o, ho, nf⟩ := t.free.ta T hn
    rw [hT] at ho; cases ho
    exact nf _ rfl
  -- row, weak
  refine Ex.stepT (Γ' := [⟨"row", rList rInt, rowS script⟩, ⟨"weak", rBool, weakS script⟩]) (Ex.tuple (bs := [⟨"row", rList rInt, rowS script⟩, ⟨"weak", rBool, weakS script⟩]) (xs := [(_, _), (_, _)]) Seen.self
    ⟨Ev.bin (Ev.root (Ev.bin (Ev.root (Ev.slice (lo := none) (hi := some 2) (st := none) (Ev.root Ev.var) trivial Ev.int trivial (by decide) (by rw [sizeLine_eq]; omega) (fun _ _ => rfl))) (Ev.root (Ev.list (xs := [3, 4, 1, 2, 2, 5, 4]) ⟨Ev.int, Ev.int, Ev.int, Ev.int, Ev.int, Ev.int, Ev.int, trivial⟩ (by decide))) (op_addL rInt _ _ (by rw [sizeLine_eq]; simp only [List.length_cons, List.length_nil]; omega))))
      (Ev.root (Ev.slice (lo := some 2) (hi := some 3) (st := none) (Ev.root Ev.var) Ev.int Ev.int trivial (by decide) (by rw [sizeLine_eq]; omega) (fun _ _ => rfl))) (op_addL rInt _ _ (by rw [sizeLine_eq]; simp only [List.length_append, List.length_cons, List.length_nil]; omega)),
      Ev.cmp (Ev.bin (Ev.len (Ev.root Ev.var) (by omega)) Ev.int (op_mod _ _ (by decide))) Ev.int (op_eq _ _), trivial⟩
    (fun b hb => ?_) rfl (by decide) (by decide) (by decide) (by decide) (fun b hb => .inl hb)) hL hE t hT fun s₁ t₁ hT₁ sh₁ => ?_
  · simp only [List.mem_cons, List.not_mem_nil, or_false] at hb
    rcases hb with rfl | rfl
    · exact solid_lint
    · exact solid_bool
  generalize hrow : rowS script = row at *
  generalize hweak : weakS script = weak at *
  have hS : Search D weak (if weak then aR else aL) := by
    cases weak with
    | true => exact ⟨_, hr⟩
    | false => exact ⟨_, hl⟩
  -- rises, piles
  refine Ex.stepT (Γ' := [⟨"rises", rList (rList rInt), rises (below row weak) row.length⟩, ⟨"piles", rList (rList rInt), piles row weak row.length⟩, ⟨"row", rList rInt, row⟩, ⟨"weak", rBool, weak⟩]) (Ex.tuple (bs := [⟨"rises", rList (rList rInt), rises (below row weak) row.length⟩, ⟨"piles", rList (rList rInt), piles row weak row.length⟩]) (xs := [(_, _), (_, _)]) Seen.self
    ⟨Ev.callP (bs := [⟨rRoot rInt, row⟩, ⟨rBool, weak⟩]) hRi ⟨Ev.root Ev.var, Ev.var, trivial⟩ (rise_call hRi okR), Ev.callP (bs := [⟨rRoot rInt, row⟩, ⟨rVal, .ref (if weak then aR else aL)⟩]) hPi ⟨Ev.root Ev.var, Ev.cast (Ev.ite (Et.val Ev.var) (fun _ => Ev.glob (by decide) (D.fl _ _ _ hr)) (fun _ => Ev.glob (by decide) (D.fl _ _ _ hl))) (by cases weak <;> rfl), trivial⟩ (pile_call hPi hS hrl), trivial⟩
    (fun b hb => ?_) rfl (by decide) (by decide) (by decide) (by decide) (fun b hb => ?_)) hL hE t₁ hT₁ fun s₂ t₂ hT₂ sh₂ => ?_
  · simp only [List.mem_cons, List.not_mem_nil, or_false] at hb
    rcases hb with rfl | rfl <;> exact solid_list solid_lint
  · simp only [List.mem_cons, List.not_mem_nil, or_false] at hb
    rcases hb with rfl | rfl | rfl | rfl
    · exact .inl (.head _)
    · exact .inl (.tail _ (.head _))
    · exact .inr ⟨.head _, by simp only [List.map_cons, List.map_nil]; decide⟩
    · exact .inr ⟨.tail _ (.head _), by simp only [List.map_cons, List.map_nil]; decide⟩
  generalize hrsE : rises (below row weak) row.length = rs at *
  generalize hpsE : piles row weak row.length = ps at *
  have hnl := nextsOf_len row ps weak
  generalize hnxE : nextsOf row ps weak = nx at *
  have hrs14 : rs.length ≤ 14 := by
    unfold okLaw2 at ok2
    simp only [Bool.and_eq_true, decide_eq_true_eq] at ok2
    exact ok2.1.1.1.1.1.1.1.1.1.2
  have keepG : ∀ {h' : Heap} {ps' : Array Value}, Keep g h' → h'.get? T = some (tabObj ps') → Keep (withTab g T ps') h' := fun {h' ps'} k e b o hbo => by
    by_cases q : b = T
    · subst q
      rw [withTab_self hsz] at hbo; cases hbo
      exact .of e
    · rw [withTab_ne q] at hbo; exact k b o hbo
  refine Mine.step (R := fun s' => ∃ ps', St A D g fLaw.scope env P (lG row weak rs ps nx) [] s' ∧ s'.heap.get? T = some (tabObj ps') ∧ Sh s₂ s') (exec_tuple (D := D) (g := g) (n := n + 3) (xs := [(_, _), (_, _)]) (es := [_, _]) hL hE (by decide) (fun _ => rfl) (by decide) (by decide) (by decide) ?_) fun s₃ q => ?_
  · refine Calls.spliced_cons (call_expr (n := n + 3) (names := []) (ks := []) (kes := []) (bs := [⟨rList rInt, row⟩, ⟨rList (rList rInt), ps⟩, ⟨rBool, weak⟩]) (Ev.glob (by decide) (D.fl _ _ _ hNx)) hNx ⟨Ev.var, Ev.var, Ev.var, trivial⟩ trivial hL hE t₂.world t₂.free t₂.toVars (by simp) fun vs kvs s₄ k₄ hvs hkvs => ?_)
    cases hkvs
    have t₄ := t₂.keeps k₄
    have hT₄ : s₄.heap.get? T = some (tabObj #[]) := (keeps_keep k₄).get hT₂ (not_fra fun _ _ z => by cases z)
    have kh : Keep g (hid s₄.heap T) := fun b o e => by
      obtain ⟨sl, e1, e2⟩ := t₄.keep b o e
      exact ⟨sl, hid_ne e1 (fun q => by rw [q, hgT] at e; cases e), e2⟩
    obtain ⟨o₀, fd₀, f1, f2, f3⟩ := hfc
    have f4 := t₄.keep.get f1 (not_fra fun _ _ z => by rw [f2] at z; cases z)
    refine wpAny_mono (next_call (n := n) hNx hRe hl hr okN hL (t₄.ok.keep kh) t₄.free hvs (fun o fd h1 h2 => ?_) (codeHd_keep C t₄.keep) (builtinsAt_keep hb t₄.keep) hT₄) (fun v s₅ z => ?_) fun _ _ e => e
    · rw [f4] at h1; cases h1
      rw [f2] at h2; cases h2
      exact f3
    obtain ⟨ps', e1, e2, e3⟩ := z
    have t₅ := t₄.grown hT₄ hgT hPT e2 e1
    have hT₅ : s₅.heap.get? T = some (tabObj ps') := (e1 T _ (withTab_self (by rw [hideAll_size]; exact Heap.lt_size hT₄))).get (not_fra fun _ _ z => by cases z)
    refine Calls.spliced_cons (wpAny_mono (Ev.len (xs := rs) (Ev.root Ev.var) (by omega) (by decide) (fun _ => rfl) A env s₅ E hL hE t₅.world t₅.free t₅.toVars) (fun u s₆ h₆ => Calls.spliced_nil ?_) fun _ _ e => e)
    have t₆ := t₅.keeps h₆.1
    refine ⟨P, [⟨"rises", rList (rList rInt), rs⟩, ⟨"piles", rList (rList rInt), ps⟩, ⟨"row", rList rInt, row⟩, ⟨"weak", rBool, weak⟩], [], [⟨"nexts", rList (rList rInt), nx⟩, ⟨"size", rInt, (rs.length : Int)⟩], rfl, t₆, ⟨.inr ⟨solid_list solid_lint, Rel.keep _ (keeps_keep h₆.1) (hnxE ▸ e3)⟩, .inr ⟨solid_int, h₆.2⟩, trivial⟩, rfl, fun b hb c hc => ?_, fun s' q c => ⟨rfl, ps', q _ fun b hb => ?_, ?_, ?_⟩⟩
    · simp only [List.mem_cons, List.not_mem_nil, or_false] at hb hc
      rcases hb with rfl | rfl <;> rcases hc with rfl | rfl | rfl | rfl <;> (dsimp only; decide)
    · rcases List.mem_cons.mp hb with rfl | hb
      · exact .inl (.head _)
      rcases List.mem_cons.mp hb with rfl | hb
      · exact .inl (.tail _ (.head _))
      · exact .inr hb
    · have hT₆ := (keeps_keep h₆.1).get hT₅ (not_fra fun _ _ z => by cases z)
      refine (c.2 T _ (fun o => ?_) hT₆).get (not_fra fun _ _ z => by cases z)
      obtain ⟨x, hx, nf⟩ := t₆.fm.ta o
      rw [hT₆] at hx; cases hx
      exact nf _ rfl
    · exact Sh.trans (Sh.of k₄) (Sh.trans e2 (Sh.trans (Sh.of h₆.1) c.1))
  obtain ⟨ps', t₃, hT₃, sh₃⟩ := q
  have t' := t₃.ghost (g' := withTab g T ps') (t₃.ok.keep (keep_withTab hgT)) (keepG t₃.keep hT₃) (fun b o => by
    by_cases q : b = T
    · obtain ⟨x, hx, nf⟩ := t₃.fm.ta o
      rw [q, hT₃] at hx; cases hx
      exact absurd rfl (nf _)
    · rw [withTab_ne q]; exact t₃.own b o) (fun m hm => (by cases hm)) (fun b hb => by
    simp only [lG, List.mem_cons, List.not_mem_nil, or_false] at hb
    rcases hb with rfl | rfl | rfl | rfl | rfl | rfl
    · exact solid_list solid_lint
    · exact solid_int
    · exact solid_list solid_lint
    · exact solid_list solid_lint
    · exact solid_lint
    · exact solid_bool)
  refine wpAny_mono (law_rest (n := n) hSu hPk hCo hl hr hMl hMh hMd hQu hnl hr0 ok2 A _ env s₃ E hL hE t') (fun f s' z => ?_) fun _ _ e => e
  obtain ⟨v, h1, h2, h3, h4⟩ := z
  obtain rfl : v = .bool true := h4
  exact ⟨ps', h1, h2, Sh.trans sh₁ (Sh.trans sh₂ (Sh.trans sh₃ h3))⟩
end
end Mine
end

section
open PySem PySem.W
set_option Elab.async false
set_option linter.unusedVariables false
set_option linter.unusedSectionVars false
set_option maxRecDepth 10000
set_option maxHeartbeats 4000000
open PyProof.Rows
namespace Mine
/-- the def as the written heap holds it -/
noncomputable def FnIn (K : Frag) (a : Addr) (F : Fn) : Prop :=
  ∃ o fd c oc vs t, K.lookup a = some o ∧ o.data = .func fd ∧ fd.params = F.params ∧ fd.body = .stmts F.body ∧ fd.scope = F.scope ∧ fd.globals = mainGlobals ∧ fd.closure = [] ∧ fd.builtins = builtinsNs ∧
    fd.code = .ref c ∧ K.lookup c = some oc ∧ oc.data = .fields vs ∧ vs[1]? = some (.str fd.qualname t) ∧ ∀ s args binds, K.In s.heap → F.bind args binds → BindsTo s fd args binds
/-- the greatest address that is alive -/
theorem top_addr (h : Heap) (b₀ : Nat) (o₀ : Obj) (e₀ : h.get? b₀ = some o₀) : ∃ N : Nat, (∃ (b : Nat) (o : Obj), N ≤ b + 1 ∧ h.get? b = some o) ∧ ∀ (b : Nat) (o : Obj), h.get? b = some o → b < N := by
  have main : ∀ m : Nat, (∃ (b : Nat) (o : Obj), h.get? b = some o ∧ b < m) → ∃ N : Nat, (∃ (b : Nat) (o : Obj), N ≤ b + 1 ∧ h.get? b = some o) ∧ ∀ (b : Nat) (o : Obj), h.get? b = some o → b < m → b < N := by
    intro m
    induction m with
    | zero => rintro ⟨b, o, _, hb⟩; exact absurd hb (Nat.not_lt_zero _)
    | succ m ih =>
      rintro ⟨b, o, hb, hm⟩
      cases q : h.get? m with
      | some o' => exact ⟨m + 1, ⟨m, o', Nat.le_refl _, q⟩, fun b o _ h => h⟩
      | none =>
        have hne : b ≠ m := fun z => by rw [z, q] at hb; cases hb
        obtain ⟨N, h1, h2⟩ := ih ⟨b, o, hb, Nat.lt_of_le_of_ne (Nat.le_of_lt_succ hm) hne⟩
        refine ⟨N, h1, fun b' o' e hb' => h2 b' o' e ?_⟩
        have : b' ≠ m := fun z => by rw [z, q] at e; cases e
        exact Nat.lt_of_le_of_ne (Nat.le_of_lt_succ hb') this
  obtain ⟨N, h1, h2⟩ := main h.objs.size ⟨b₀, o₀, e₀, Heap.lt_size e₀⟩
  exact ⟨N, h1, fun b o e => h2 b o e (Heap.lt_size e)⟩
variable [Lim]
theorem kIn_keep {K : Frag} {h h' : Heap} (X : K.In h) (hlt : ∀ a o, h.get? a = some o → a < Lim.n) (k : Keep h h') : K.In h' := fun a o e => (k.get (X a o e) fun f => by
  exact absurd (hlt a o (X a o e)) (Nat.not_lt.mpr f.1))
theorem fnOk_of {K : Frag} {h : Heap} {a : Addr} {F : Fn} (f : FnIn K a F) (X : K.In h) (hlt : ∀ a o, h.get? a = some o → a < Lim.n) : FnOk h a F := by
  obtain ⟨o, fd, c, oc, vs, t, h1, h2, h3, h4, h5, h6, h7, h8, h9, h10, h11, h12, h13⟩ := f
  exact ⟨o, fd, X _ _ h1, h2, h3, h4, h5, h6, h7, h8, ⟨c, oc, vs, t, h9, X _ _ h10, h11, h12⟩, fun s args binds k hb => h13 s args binds (kIn_keep X hlt k) hb⟩
theorem lv_caller : Lv 20 callerA := ⟨rfl, by decide +kernel, by decide +kernel⟩
theorem free_caller (h : Heap) : Free callerA (fun _ => True) h := ⟨fun b hb => absurd trivial hb, [], rfl, fun e he => by cases he⟩
section
variable {prog : Program} {w : World} {D : Wd} {g : Heap} {P : Addr → Prop} {s : Shared} {E : Value → Shared → Prop} {aL aR aF aRi aPi aNx aSu aPk aCo aMl aMh aMd aQu aLaw : Addr}
theorem law_top {script : List Int} {cN T : Addr} {v : Value} (hLaw : D.fn "law" = some (aLaw, fLaw)) (hRi : D.fn "_law_rises" = some (aRi, fRise)) (hPi : D.fn "_law_piles" = some (aPi, fPile)) (hNx : D.fn "_law_nexts" = some (aNx, fNext)) (hRe : D.fn "_law_refused" = some (aF, fRef))
    (hSu : D.fn "_law_sums" = some (aSu, fSum)) (hPk : D.fn "_law_picks" = some (aPk, fPick)) (hCo : D.fn "_law_column" = some (aCo, fCol)) (hl : D.fn "bisect_left" = some (aL, fBL)) (hr : D.fn "bisect_right" = some (aR, fBR))
    (hMl : D.fn "median_low" = some (aMl, fLow)) (hMh : D.fn "median_high" = some (aMh, fHigh)) (hMd : D.fn "median" = some (aMd, fMed)) (hQu : D.fn "quantiles" = some (aQu, fQ))
    (hsl : script.length ≤ 63) (ok : okLaw (rowS script) (weakS script) = true) (hW : D.Ok (hid s.heap T)) (hv : (rList rInt).is (fun _ => True) s.heap v script)
    (hfc : ∃ o fd, s.heap.get? aNx = some o ∧ o.data = .func fd ∧ fd.code = .ref cN) (C : CodeHd s.heap cN T) (hb : s.heap.BuiltinsAt D.mg T) (hT : s.heap.get? T = some (tabObj #[])) :
    wpAny (model prog w) callerA (call (.ref aLaw) [v] []) (fun q s' => q = .bool true ∧ ∃ ps', Keep (withTab (hid s.heap T) T ps') s'.heap ∧ Sh s s') E s := by
  have hF := free_caller s.heap
  have hL : Lv 4 callerA := lv_caller.le (by decide)
  obtain ⟨binds, hb1, hb2, hb3, hb4⟩ := pos_args (F := fLaw) (names := ["script"]) (bs := [⟨rList rInt, script⟩]) rfl rfl (by decide) (by decide) [v] [] s.heap (fun _ => True) (.cons hv .nil) .nil
  refine call_fn' (n := 3) hLaw fits_law hL (hW.keep hid_keep) hF hb1 hb2 hb3 hb4 fun env s₁ P' hP' hE hfr t hs₁ hcode hk hP'' => ?_
  have t₁ := t.ghost hW (.of fun b o e => hk b o (of_hid e)) (fun b o => hid_of (t.own b o)) (fun m hm => (by cases hm)) (fun b hb => by
    simp only [bnds, List.mem_cons, List.not_mem_nil, or_false] at hb
    subst hb; exact solid_lint)
  have neT : ∀ {b o}, s.heap.get? b = some o → o ≠ tabObj #[] → b ≠ T := fun e ne q => by rw [q, hT] at e; cases e; exact ne rfl
  refine wpAny_mono (law_block (cN := cN) (n := 0) hRi hPi hNx hRe hSu hPk hCo hl hr hMl hMh hMd hQu hsl ok (hL.deeper env) hE t₁ ?_ ?_ ?_ (hk T _ hT) hid_none (by rw [hideAll_size]; exact Heap.lt_size hT)) (fun f s' z => ?_) fun _ _ e => e
  · obtain ⟨o, fd, e1, e2, e3⟩ := hfc
    exact ⟨o, fd, hid_ne e1 (neT e1 fun q => by rw [q] at e2; cases e2), e2, e3⟩
  · obtain ⟨o, vs, file, tf, flags, tg, inF, text, tt, e, r1, r⟩ := C
    exact ⟨o, vs, file, tf, flags, tg, inF, text, tt, hid_ne e (neT e fun q => by rw [q] at r1; cases r1), r1, r⟩
  · obtain ⟨bm, o, a1, a2, a3, a4, e, r1, r⟩ := hb
    exact ⟨bm, o, a1, a2, a3, a4, hid_ne e (neT e fun q => by rw [q] at r1; cases r1), r1, r⟩
  · obtain ⟨ps', rfl, e1, e2⟩ := z
    exact ⟨rfl, ps', e1, Sh.trans hs₁ e2⟩
/-- what the claim asks of the elder heap -/
theorem oldK_of {h h' : Heap} {cN T : Addr} {ps' : Array Value} (C : CodeHd h cN T) (hT : h.get? T = some (tabObj #[])) (hlt : ∀ a o, h.get? a = some o → a < Lim.n) (k : Keep (withTab (hid h T) T ps') h') : OldK h h' := by
  have hz : T < (hid h T).objs.size := by rw [hideAll_size]; exact Heap.lt_size hT
  have other : ∀ b o, b ≠ T → h.get? b = some o → h'.get? b = some o := fun b o hb e => k.get ((withTab_ne hb).trans (hid_ne e hb)) fun f => by
    exact absurd (hlt b o e) (Nat.not_lt.mpr f.1)
  have hT' : h'.get? T = some (tabObj ps') := k.get (withTab_self hz) (not_fra fun _ _ z => by cases z)
  refine ⟨fun b o e => ?_, fun b o e => ?_⟩
  · by_cases q : b = T
    · subst q
      rw [hT] at e; cases e
      exact .inr (.inl ⟨(C.tab hT).isCodeTable, rfl, #[], ps', rfl, by rw [Array.empty_append]; exact hT'⟩)
    · exact .inl (other b o q e)
  · by_cases q : b = T
    · exact ⟨_, q ▸ hT'⟩
    · exact ⟨o, other b o q e⟩
end
end Mine
end

section
open PySem PySem.W
set_option Elab.async false
set_option linter.unusedVariables false
set_option linter.unusedSectionVars false
set_option maxRecDepth 100000
set_option maxHeartbeats 4000000
open PyProof.Rows
namespace Mine
noncomputable def lawFns : List (Str × Addr × Fn) := [("bisect_right", 23, fBR), ("bisect_left", 32, fBL), ("median", 52, fMed), ("median_low", 59, fLow), ("median_high", 66, fHigh), ("quantiles", 74, fQ), ("_law_rises", 79, fRise), ("_law_piles", 86, fPile), ("_law_refused", 93, fRef),
  ("_law_nexts", 98, fNext), ("_law_sums", 103, fSum), ("_law_picks", 108, fPick), ("_law_column", 113, fCol), ("law", 118, fLaw)]
/-- the defs, their codes and defaults, and the module's names, as the top leaves them -/
noncomputable def KK (P : Params) : Frag := [
  (3, { cls := Value.type "dict", data := Data.dict #[{ hash := PyData.keyHash P (Str.ofString "__name__"), key := Value.str (Str.ofString "__name__") 165, val := Value.str (Str.ofString "law_sc0053_01") 282 }, { hash := PyData.keyHash P (Str.ofString "__doc__"), key := Value.str (Str.ofString "__doc__") 166, val := Value.none }, { hash := PyData.keyHash P (Str.ofString "__package__"), key := Value.str (Str.ofString "__package__") 167, val := Value.none }, { hash := PyData.keyHash P (Str.ofString "__loader__"), key := Value.str (Str.ofString "__loader__") 168, val := Value.builtin "__main__.__loader__#opaque" }, { hash := PyData.keyHash P (Str.ofString "__spec__"), key := Value.str (Str.ofString "__spec__") 169, val := Value.none }, { hash := PyData.keyHash P (Str.ofString "__annotations__"), key := Value.str (Str.ofString "__annotations__") 170, val := Value.ref 6 }, { hash := PyData.keyHash P (Str.ofString "__builtins__"), key := Value.str (Str.ofString "__builtins__") 171, val := Value.ref 4 }, { hash := PyData.keyHash P (Str.ofString "__file__"), key := Value.str (Str.ofString "__file__") 173, val := Value.str (Str.ofString "/claim/cut.py") 172 }, { hash := PyData.keyHash P (Str.ofString "__cached__"), key := Value.str (Str.ofString "__cached__") 174, val := Value.none }, { hash := PyData.keyHash P (Str.ofString "bisect_right"), key := Value.str (Str.ofString "bisect_right") 202, val := Value.ref 23 }, { hash := PyData.keyHash P (Str.ofString "bisect_left"), key := Value.str (Str.ofString "bisect_left") 216, val := Value.ref 32 }, { hash := PyData.keyHash P (Str.ofString "StatisticsError"), key := Value.str (Str.ofString "StatisticsError") 236, val := Value.ref 42 }, { hash := PyData.keyHash P (Str.ofString "median"), key := Value.str (Str.ofString "median") 245, val := Value.ref 52 }, { hash := PyData.keyHash P (Str.ofString "median_low"), key := Value.str (Str.ofString "median_low") 253, val := Value.ref 59 }, { hash := PyData.keyHash P (Str.ofString "median_high"), key := Value.str (Str.ofString "median_high") 261, val := Value.ref 66 }, { hash := PyData.keyHash P (Str.ofString "quantiles"), key := Value.str (Str.ofString "quantiles") 281, val := Value.ref 74 }, { hash := PyData.keyHash P (Str.ofString "_law_rises"), key := Value.str (Str.ofString "_law_rises") 289, val := Value.ref 79 }, { hash := PyData.keyHash P (Str.ofString "_law_piles"), key := Value.str (Str.ofString "_law_piles") 301, val := Value.ref 86 }, { hash := PyData.keyHash P (Str.ofString "_law_refused"), key := Value.str (Str.ofString "_law_refused") 312, val := Value.ref 93 }, { hash := PyData.keyHash P (Str.ofString "_law_nexts"), key := Value.str (Str.ofString "_law_nexts") 318, val := Value.ref 98 }, { hash := PyData.keyHash P (Str.ofString "_law_sums"), key := Value.str (Str.ofString "_law_sums") 324, val := Value.ref 103 }, { hash := PyData.keyHash P (Str.ofString "_law_picks"), key := Value.str (Str.ofString "_law_picks") 330, val := Value.ref 108 }, { hash := PyData.keyHash P (Str.ofString "_law_column"), key := Value.str (Str.ofString "_law_column") 336, val := Value.ref 113 }, { hash := PyData.keyHash P (Str.ofString "law"), key := Value.str (Str.ofString "law") 342, val := Value.ref 118 }] 24 }),
  (15, { cls := Value.type "tuple", data := Data.seq #[Value.int 0 189, Value.none] }),
  (16, { cls := Value.type "dict", data := Data.dict #[{ hash := PyData.keyHash P (Str.ofString "key"), key := Value.str (Str.ofString "key") 190, val := Value.none }] 1 }),
  (22, { cls := Value.type "code", data := Data.fields #[Value.str (Str.ofString "bisect_right") 191, Value.str (Str.ofString "bisect_right") 192, Value.str (Str.ofString "/claim/cut.py") 193, Value.int 2 0, Value.int 4 0, Value.int 0 0, Value.int 1 0, Value.int 3 0, Value.ref 17, Value.bool true, Value.int 181 0, Value.ref 18, Value.none, Value.ref 19, Value.ref 20, Value.ref 21, Value.int 200 0, Value.int 2 0, Value.str (Str.ofString "/claim/cut.py") 201] }),
  (23, { cls := Value.type "function", dict := none, data := .func { name := Str.ofString "bisect_right", qualname := Str.ofString "bisect_right", params := fBR.params, body := .stmts fBR.body, scope := fBR.scope, globals := 3, closure := [], defaults := Value.ref 15, kwdefaults := Value.ref 16, doc := Value.none, pyModule := Value.str (Str.ofString "cpy313.bisect") 187, annotations := none, code := Value.ref 22, closureTuple := Value.none, builtins := 0 }, slots := #[] }),
  (24, { cls := Value.type "tuple", data := Data.seq #[Value.int 0 203, Value.none] }),
  (25, { cls := Value.type "dict", data := Data.dict #[{ hash := PyData.keyHash P (Str.ofString "key"), key := Value.str (Str.ofString "key") 204, val := Value.none }] 1 }),
  (31, { cls := Value.type "code", data := Data.fields #[Value.str (Str.ofString "bisect_left") 205, Value.str (Str.ofString "bisect_left") 206, Value.str (Str.ofString "/claim/cut.py") 207, Value.int 22 0, Value.int 4 0, Value.int 0 0, Value.int 1 0, Value.int 3 0, Value.ref 26, Value.bool true, Value.int 181 0, Value.ref 27, Value.none, Value.ref 28, Value.ref 29, Value.ref 30, Value.int 214 0, Value.int 22 0, Value.str (Str.ofString "/claim/cut.py") 215] }),
  (32, { cls := Value.type "function", dict := none, data := .func { name := Str.ofString "bisect_left", qualname := Str.ofString "bisect_left", params := fBL.params, body := .stmts fBL.body, scope := fBL.scope, globals := 3, closure := [], defaults := Value.ref 24, kwdefaults := Value.ref 25, doc := Value.none, pyModule := Value.str (Str.ofString "cpy313.bisect") 187, annotations := none, code := Value.ref 31, closureTuple := Value.none, builtins := 0 }, slots := #[] }),
  (51, { cls := Value.type "code", data := Data.fields #[Value.str (Str.ofString "median") 237, Value.str (Str.ofString "median") 238, Value.str (Str.ofString "/claim/cut.py") 239, Value.int 45 0, Value.int 1 0, Value.int 0 0, Value.int 0 0, Value.int 3 0, Value.ref 46, Value.bool true, Value.int 181 0, Value.ref 47, Value.none, Value.ref 48, Value.ref 49, Value.ref 50, Value.int 243 0, Value.int 45 0, Value.str (Str.ofString "/claim/cut.py") 244] }),
  (52, { cls := Value.type "function", dict := none, data := .func { name := Str.ofString "median", qualname := Str.ofString "median", params := fMed.params, body := .stmts fMed.body, scope := fMed.scope, globals := 3, closure := [], defaults := Value.none, kwdefaults := Value.none, doc := Value.none, pyModule := Value.str (Str.ofString "cpy313.statistics") 217, annotations := none, code := Value.ref 51, closureTuple := Value.none, builtins := 0 }, slots := #[] }),
  (58, { cls := Value.type "code", data := Data.fields #[Value.str (Str.ofString "median_low") 246, Value.str (Str.ofString "median_low") 247, Value.str (Str.ofString "/claim/cut.py") 248, Value.int 55 0, Value.int 1 0, Value.int 0 0, Value.int 0 0, Value.int 3 0, Value.ref 53, Value.bool true, Value.int 181 0, Value.ref 54, Value.none, Value.ref 55, Value.ref 56, Value.ref 57, Value.int 251 0, Value.int 55 0, Value.str (Str.ofString "/claim/cut.py") 252] }),
  (59, { cls := Value.type "function", dict := none, data := .func { name := Str.ofString "median_low", qualname := Str.ofString "median_low", params := fLow.params, body := .stmts fLow.body, scope := fLow.scope, globals := 3, closure := [], defaults := Value.none, kwdefaults := Value.none, doc := Value.none, pyModule := Value.str (Str.ofString "cpy313.statistics") 217, annotations := none, code := Value.ref 58, closureTuple := Value.none, builtins := 0 }, slots := #[] }),
  (65, { cls := Value.type "code", data := Data.fields #[Value.str (Str.ofString "median_high") 254, Value.str (Str.ofString "median_high") 255, Value.str (Str.ofString "/claim/cut.py") 256, Value.int 64 0, Value.int 1 0, Value.int 0 0, Value.int 0 0, Value.int 3 0, Value.ref 60, Value.bool true, Value.int 181 0, Value.ref 61, Value.none, Value.ref 62, Value.ref 63, Value.ref 64, Value.int 259 0, Value.int 64 0, Value.str (Str.ofString "/claim/cut.py") 260] }),
  (66, { cls := Value.type "function", dict := none, data := .func { name := Str.ofString "median_high", qualname := Str.ofString "median_high", params := fHigh.params, body := .stmts fHigh.body, scope := fHigh.scope, globals := 3, closure := [], defaults := Value.none, kwdefaults := Value.none, doc := Value.none, pyModule := Value.str (Str.ofString "cpy313.statistics") 217, annotations := none, code := Value.ref 65, closureTuple := Value.none, builtins := 0 }, slots := #[] }),
  (67, { cls := Value.type "dict", data := Data.dict #[{ hash := PyData.keyHash P (Str.ofString "n"), key := Value.str (Str.ofString "n") 264, val := Value.int 4 262 }, { hash := PyData.keyHash P (Str.ofString "method"), key := Value.str (Str.ofString "method") 265, val := Value.str (Str.ofString "exclusive") 263 }] 2 }),
  (73, { cls := Value.type "code", data := Data.fields #[Value.str (Str.ofString "quantiles") 266, Value.str (Str.ofString "quantiles") 267, Value.str (Str.ofString "/claim/cut.py") 268, Value.int 70 0, Value.int 1 0, Value.int 0 0, Value.int 2 0, Value.int 3 0, Value.ref 68, Value.bool true, Value.int 181 0, Value.ref 69, Value.none, Value.ref 70, Value.ref 71, Value.ref 72, Value.int 279 0, Value.int 70 0, Value.str (Str.ofString "/claim/cut.py") 280] }),
  (74, { cls := Value.type "function", dict := none, data := .func { name := Str.ofString "quantiles", qualname := Str.ofString "quantiles", params := fQ.params, body := .stmts fQ.body, scope := fQ.scope, globals := 3, closure := [], defaults := Value.none, kwdefaults := Value.ref 67, doc := Value.none, pyModule := Value.str (Str.ofString "cpy313.statistics") 217, annotations := none, code := Value.ref 73, closureTuple := Value.none, builtins := 0 }, slots := #[] }),
  (78, { cls := Value.type "code", data := Data.fields #[Value.str (Str.ofString "_law_rises") 284, Value.str (Str.ofString "_law_rises") 285, Value.str (Str.ofString "/claim/cut.py") 286, Value.int 99 0, Value.int 2 0, Value.int 0 0, Value.int 0 0, Value.int 3 0, Value.ref 75, Value.bool true, Value.int 181 0, Value.ref 76, Value.none, Value.none, Value.none, Value.ref 77, Value.int 287 0, Value.int 99 0, Value.str (Str.ofString "/claim/cut.py") 288] }),
  (79, { cls := Value.type "function", dict := none, data := .func { name := Str.ofString "_law_rises", qualname := Str.ofString "_law_rises", params := fRise.params, body := .stmts fRise.body, scope := fRise.scope, globals := 3, closure := [], defaults := Value.none, kwdefaults := Value.none, doc := Value.none, pyModule := Value.str (Str.ofString "law_sc0053_01") 282, annotations := none, code := Value.ref 78, closureTuple := Value.none, builtins := 0 }, slots := #[] }),
  (85, { cls := Value.type "code", data := Data.fields #[Value.str (Str.ofString "_law_piles") 290, Value.str (Str.ofString "_law_piles") 291, Value.str (Str.ofString "/claim/cut.py") 292, Value.int 108 0, Value.int 2 0, Value.int 0 0, Value.int 0 0, Value.int 3 0, Value.ref 80, Value.bool true, Value.int 181 0, Value.ref 81, Value.none, Value.ref 82, Value.ref 83, Value.ref 84, Value.int 299 0, Value.int 108 0, Value.str (Str.ofString "/claim/cut.py") 300] }),
  (86, { cls := Value.type "function", dict := none, data := .func { name := Str.ofString "_law_piles", qualname := Str.ofString "_law_piles", params := fPile.params, body := .stmts fPile.body, scope := fPile.scope, globals := 3, closure := [], defaults := Value.none, kwdefaults := Value.none, doc := Value.none, pyModule := Value.str (Str.ofString "law_sc0053_01") 282, annotations := none, code := Value.ref 85, closureTuple := Value.none, builtins := 0 }, slots := #[] }),
  (92, { cls := Value.type "code", data := Data.fields #[Value.str (Str.ofString "_law_refused") 302, Value.str (Str.ofString "_law_refused") 303, Value.str (Str.ofString "/claim/cut.py") 304, Value.int 119 0, Value.int 5 0, Value.int 0 0, Value.int 0 0, Value.int 3 0, Value.ref 87, Value.bool true, Value.int 181 0, Value.ref 88, Value.none, Value.ref 89, Value.ref 90, Value.ref 91, Value.int 310 0, Value.int 119 0, Value.str (Str.ofString "/claim/cut.py") 311] }),
  (93, { cls := Value.type "function", dict := none, data := .func { name := Str.ofString "_law_refused", qualname := Str.ofString "_law_refused", params := fRef.params, body := .stmts fRef.body, scope := fRef.scope, globals := 3, closure := [], defaults := Value.none, kwdefaults := Value.none, doc := Value.none, pyModule := Value.str (Str.ofString "law_sc0053_01") 282, annotations := none, code := Value.ref 92, closureTuple := Value.none, builtins := 0 }, slots := #[] }),
  (97, { cls := Value.type "code", data := Data.fields #[Value.str (Str.ofString "_law_nexts") 313, Value.str (Str.ofString "_law_nexts") 314, Value.str (Str.ofString "/claim/cut.py") 315, Value.int 125 0, Value.int 3 0, Value.int 0 0, Value.int 0 0, Value.int 3 0, Value.ref 94, Value.bool true, Value.int 181 0, Value.ref 95, Value.none, Value.none, Value.none, Value.ref 96, Value.int 316 0, Value.int 125 0, Value.str (Str.ofString "/claim/cut.py") 317] }),
  (98, { cls := Value.type "function", dict := none, data := .func { name := Str.ofString "_law_nexts", qualname := Str.ofString "_law_nexts", params := fNext.params, body := .stmts fNext.body, scope := fNext.scope, globals := 3, closure := [], defaults := Value.none, kwdefaults := Value.none, doc := Value.none, pyModule := Value.str (Str.ofString "law_sc0053_01") 282, annotations := none, code := Value.ref 97, closureTuple := Value.none, builtins := 0 }, slots := #[] }),
  (102, { cls := Value.type "code", data := Data.fields #[Value.str (Str.ofString "_law_sums") 319, Value.str (Str.ofString "_law_sums") 320, Value.str (Str.ofString "/claim/cut.py") 321, Value.int 149 0, Value.int 2 0, Value.int 0 0, Value.int 0 0, Value.int 3 0, Value.ref 99, Value.bool true, Value.int 181 0, Value.ref 100, Value.none, Value.none, Value.none, Value.ref 101, Value.int 322 0, Value.int 149 0, Value.str (Str.ofString "/claim/cut.py") 323] }),
  (103, { cls := Value.type "function", dict := none, data := .func { name := Str.ofString "_law_sums", qualname := Str.ofString "_law_sums", params := fSum.params, body := .stmts fSum.body, scope := fSum.scope, globals := 3, closure := [], defaults := Value.none, kwdefaults := Value.none, doc := Value.none, pyModule := Value.str (Str.ofString "law_sc0053_01") 282, annotations := none, code := Value.ref 102, closureTuple := Value.none, builtins := 0 }, slots := #[] }),
  (107, { cls := Value.type "code", data := Data.fields #[Value.str (Str.ofString "_law_picks") 325, Value.str (Str.ofString "_law_picks") 326, Value.str (Str.ofString "/claim/cut.py") 327, Value.int 162 0, Value.int 4 0, Value.int 0 0, Value.int 0 0, Value.int 3 0, Value.ref 104, Value.bool true, Value.int 181 0, Value.ref 105, Value.none, Value.none, Value.none, Value.ref 106, Value.int 328 0, Value.int 162 0, Value.str (Str.ofString "/claim/cut.py") 329] }),
  (108, { cls := Value.type "function", dict := none, data := .func { name := Str.ofString "_law_picks", qualname := Str.ofString "_law_picks", params := fPick.params, body := .stmts fPick.body, scope := fPick.scope, globals := 3, closure := [], defaults := Value.none, kwdefaults := Value.none, doc := Value.none, pyModule := Value.str (Str.ofString "law_sc0053_01") 282, annotations := none, code := Value.ref 107, closureTuple := Value.none, builtins := 0 }, slots := #[] }),
  (112, { cls := Value.type "code", data := Data.fields #[Value.str (Str.ofString "_law_column") 331, Value.str (Str.ofString "_law_column") 332, Value.str (Str.ofString "/claim/cut.py") 333, Value.int 167 0, Value.int 3 0, Value.int 0 0, Value.int 0 0, Value.int 3 0, Value.ref 109, Value.bool true, Value.int 181 0, Value.ref 110, Value.none, Value.none, Value.none, Value.ref 111, Value.int 334 0, Value.int 167 0, Value.str (Str.ofString "/claim/cut.py") 335] }),
  (113, { cls := Value.type "function", dict := none, data := .func { name := Str.ofString "_law_column", qualname := Str.ofString "_law_column", params := fCol.params, body := .stmts fCol.body, scope := fCol.scope, globals := 3, closure := [], defaults := Value.none, kwdefaults := Value.none, doc := Value.none, pyModule := Value.str (Str.ofString "law_sc0053_01") 282, annotations := none, code := Value.ref 112, closureTuple := Value.none, builtins := 0 }, slots := #[] }),
  (117, { cls := Value.type "code", data := Data.fields #[Value.str (Str.ofString "law") 337, Value.str (Str.ofString "law") 338, Value.str (Str.ofString "/claim/cut.py") 339, Value.int 187 0, Value.int 1 0, Value.int 0 0, Value.int 0 0, Value.int 3 0, Value.ref 114, Value.bool true, Value.int 181 0, Value.ref 115, Value.none, Value.none, Value.none, Value.ref 116, Value.int 340 0, Value.int 187 0, Value.str (Str.ofString "/claim/cut.py") 341] }),
  (118, { cls := Value.type "function", dict := none, data := .func { name := Str.ofString "law", qualname := Str.ofString "law", params := fLaw.params, body := .stmts fLaw.body, scope := fLaw.scope, globals := 3, closure := [], defaults := Value.none, kwdefaults := Value.none, doc := Value.none, pyModule := Value.str (Str.ofString "law_sc0053_01") 282, annotations := none, code := Value.ref 117, closureTuple := Value.none, builtins := 0 }, slots := #[] })]
noncomputable def KKas : List Addr := [3, 15, 16, 22, 23, 24, 25, 31, 32, 51, 52, 58, 59, 65, 66, 67, 73, 74, 78, 79, 85, 86, 92, 93, 97, 98, 102, 103, 107, 108, 112, 113, 117, 118]
theorem KKas_eq (P : Params) : KKas = (KK P).map (·.1) := rfl
noncomputable abbrev KH : Hook := kmHook KK KKas KKas_eq [95]
/-- the text without the defs that have defaults and without its names' stores -/
noncomputable def viewQ : Program := { PySem.Challenge.pw_sc0053_01 with main := { PySem.Challenge.pw_sc0053_01.main with body := (PySem.Challenge.pw_sc0053_01.main.body.drop 4).take 4 ++ PySem.Challenge.pw_sc0053_01.main.body.drop 10 } }
noncomputable abbrev rW : RowW := OpenRow.toRowW (OpenLaw.row PySem.Challenge.rw_sc0053_01)
theorem said_ok : PySem.Challenge.rw_sc0053_01.wellSaid = true := by decide +kernel
theorem left_ok : LeftO rW.prog viewQ ["bisect_right", "bisect_left", "quantiles"] (fun s => xlAt viewQ [] s && recOk (RowW.records rW) s) (Hook.obs KH) (Hook.val KH) 1442 := fun w => by kernel_rfl
/-- what is asked of the written heap -/
structure KFacts (K : Frag) : Prop where
  fn : ∀ p ∈ lawFns, nsIn K mainGlobals p.1 = some (some (.ref p.2.1)) ∧ FnIn K p.2.1 p.2.2
  bi : ∀ p ∈ builtinList, nsIn K mainGlobals p.1 = some none
  nc : ∃ o fd, K.lookup 98 = some o ∧ o.data = .func fd ∧ fd.code = .ref 97
  hd : codeHdIn K 97 95 = true
  nt : noTabs K = true
theorem bi_boot : ∀ p ∈ builtinList, p.1 ≠ ("__name__" : Str) ∧ bootBuiltins p.1 = some p.2 := by
  intro p hp
  simp only [builtinList, List.mem_cons, List.not_mem_nil, or_false] at hp
  rcases hp with rfl | rfl | rfl | rfl | rfl | rfl | rfl | rfl | rfl | rfl
  all_goals exact ⟨by decide, by decide +kernel⟩
theorem lookup_in {α : Type} {l : List (Str × α)} {x : Str} {v : α} (h : l.lookup x = some v) : (x, v) ∈ l := mem_of_lookup h
theorem len1 {α : Type} {l : List α} (h : l.length = 1) : ∃ a, l = [a] := by
  match l, h with
  | [a], _ => exact ⟨a, rfl⟩
theorem len2 {α : Type} {l : List α} (h : l.length = 2) : ∃ a b, l = [a, b] := by
  match l, h with
  | [a, b], _ => exact ⟨a, b, rfl⟩
theorem len3 {α : Type} {l : List α} (h : l.length = 3) : ∃ a b c, l = [a, b, c] := by
  match l, h with
  | [a, b, c], _ => exact ⟨a, b, c, rfl⟩
theorem len4 {α : Type} {l : List α} (h : l.length = 4) : ∃ a b c d, l = [a, b, c, d] := by
  match l, h with
  | [a, b, c, d], _ => exact ⟨a, b, c, d, rfl⟩
theorem len5 {α : Type} {l : List α} (h : l.length = 5) : ∃ a b c d e, l = [a, b, c, d, e] := by
  match l, h with
  | [a, b, c, d, e], _ => exact ⟨a, b, c, d, e, rfl⟩
theorem pos1 {x : Str} {fd : FuncData} (h : ∀ a, bindArgs fd ⟨[a], []⟩ = pure [(x, a)]) (s : Shared) (args : Args) (binds : List (Str × Value)) (hb : bindPos [x] args binds) : BindsTo s fd args binds := by
  obtain ⟨pos, kw⟩ := args
  obtain ⟨h1, h2, h3⟩ := hb
  dsimp only at h1 h2 h3
  obtain ⟨a, rfl⟩ := len1 h2
  subst h1 h3
  exact BindsTo.of_eq (h a)
theorem pos2 {x y : Str} {fd : FuncData} (h : ∀ a b, bindArgs fd ⟨[a, b], []⟩ = pure [(x, a), (y, b)]) (s : Shared) (args : Args) (binds : List (Str × Value)) (hb : bindPos [x, y] args binds) : BindsTo s fd args binds := by
  obtain ⟨pos, kw⟩ := args
  obtain ⟨h1, h2, h3⟩ := hb
  dsimp only at h1 h2 h3
  obtain ⟨a, b, rfl⟩ := len2 h2
  subst h1 h3
  exact BindsTo.of_eq (h a b)
theorem pos3 {x y z : Str} {fd : FuncData} (h : ∀ a b c, bindArgs fd ⟨[a, b, c], []⟩ = pure [(x, a), (y, b), (z, c)]) (s : Shared) (args : Args) (binds : List (Str × Value)) (hb : bindPos [x, y, z] args binds) : BindsTo s fd args binds := by
  obtain ⟨pos, kw⟩ := args
  obtain ⟨h1, h2, h3⟩ := hb
  dsimp only at h1 h2 h3
  obtain ⟨a, b, c, rfl⟩ := len3 h2
  subst h1 h3
  exact BindsTo.of_eq (h a b c)
theorem pos4 {x y z u : Str} {fd : FuncData} (h : ∀ a b c d, bindArgs fd ⟨[a, b, c, d], []⟩ = pure [(x, a), (y, b), (z, c), (u, d)]) (s : Shared) (args : Args) (binds : List (Str × Value)) (hb : bindPos [x, y, z, u] args binds) : BindsTo s fd args binds := by
  obtain ⟨pos, kw⟩ := args
  obtain ⟨h1, h2, h3⟩ := hb
  dsimp only at h1 h2 h3
  obtain ⟨a, b, c, d, rfl⟩ := len4 h2
  subst h1 h3
  exact BindsTo.of_eq (h a b c d)
theorem pos5 {x y z u v : Str} {fd : FuncData} (h : ∀ a b c d e, bindArgs fd ⟨[a, b, c, d, e], []⟩ = pure [(x, a), (y, b), (z, c), (u, d), (v, e)]) (s : Shared) (args : Args) (binds : List (Str × Value)) (hb : bindPos [x, y, z, u, v] args binds) : BindsTo s fd args binds := by
  obtain ⟨pos, kw⟩ := args
  obtain ⟨h1, h2, h3⟩ := hb
  dsimp only at h1 h2 h3
  obtain ⟨a, b, c, d, e, rfl⟩ := len5 h2
  subst h1 h3
  exact BindsTo.of_eq (h a b c d e)
theorem bis_binds {K : Frag} {t : Tok} {fd : FuncData} (h2 : ∀ a b S, peek K S (bindArgs fd ⟨[a, b], []⟩) = some [(("a" : Str), a), (("x" : Str), b), (("lo" : Str), .int 0 t), (("hi" : Str), .none), (("key" : Str), .none)])
    (h4 : ∀ a b c d S, peek K S (bindArgs fd ⟨[a, b, c, d], []⟩) = some [(("a" : Str), a), (("x" : Str), b), (("lo" : Str), c), (("hi" : Str), d), (("key" : Str), .none)])
    (h5 : ∀ a b c d e S, peek K S (bindArgs fd ⟨[a, b, c, d], [(("key" : Str), e)]⟩) = some [(("a" : Str), a), (("x" : Str), b), (("lo" : Str), c), (("hi" : Str), d), (("key" : Str), e)])
    (s : Shared) (args : Args) (binds : List (Str × Value)) (X : K.In s.heap) (hb : bindBis t args binds) : BindsTo s fd args binds := by
  rcases hb with ⟨a, b, rfl, rfl⟩ | ⟨a, b, c, d, rfl, rfl⟩ | ⟨a, b, c, d, e, rfl, rfl⟩
  · exact kp_binds X (h2 a b)
  · exact kp_binds X (h4 a b c d)
  · exact kp_binds X (h5 a b c d e)
theorem q_binds {K : Frag} {fd : FuncData} (h1 : ∀ a S, peek K S (bindArgs fd ⟨[a], []⟩) = some [(("data" : Str), a), (("n" : Str), .int 4 262), (("method" : Str), .str "exclusive" 263)])
    (h2 : ∀ a b S, peek K S (bindArgs fd ⟨[a], [(("n" : Str), b)]⟩) = some [(("data" : Str), a), (("n" : Str), b), (("method" : Str), .str "exclusive" 263)])
    (h3 : ∀ a b c S, peek K S (bindArgs fd ⟨[a], [(("n" : Str), b), (("method" : Str), c)]⟩) = some [(("data" : Str), a), (("n" : Str), b), (("method" : Str), c)])
    (s : Shared) (args : Args) (binds : List (Str × Value)) (X : K.In s.heap) (hb : bindQ args binds) : BindsTo s fd args binds := by
  rcases hb with ⟨a, rfl, rfl⟩ | ⟨a, b, rfl, rfl⟩ | ⟨a, b, c, rfl, rfl⟩
  · exact kp_binds X (h1 a)
  · exact kp_binds X (h2 a b)
  · exact kp_binds X (h3 a b c)
theorem kfacts (Q : Params) : KFacts (KK Q) := by
  refine ⟨fun p hp => ?_, fun p hp => ?_, ⟨_, _, rfl, rfl, rfl⟩, ?_, ?_⟩
  · simp only [lawFns, List.mem_cons, List.not_mem_nil, or_false] at hp
    rcases hp with rfl | rfl | rfl | rfl | rfl | rfl | rfl | rfl | rfl | rfl | rfl | rfl | rfl | rfl
    · exact ⟨rfl, _, _, _, _, _, _, rfl, rfl, rfl, rfl, rfl, rfl, rfl, rfl, rfl, rfl, rfl, rfl, bis_binds (fun _ _ _ => rfl) (fun _ _ _ _ _ => rfl) (fun _ _ _ _ _ _ => rfl)⟩
    · exact ⟨rfl, _, _, _, _, _, _, rfl, rfl, rfl, rfl, rfl, rfl, rfl, rfl, rfl, rfl, rfl, rfl, bis_binds (fun _ _ _ => rfl) (fun _ _ _ _ _ => rfl) (fun _ _ _ _ _ _ => rfl)⟩
    · exact ⟨rfl, _, _, _, _, _, _, rfl, rfl, rfl, rfl, rfl, rfl, rfl, rfl, rfl, rfl, rfl, rfl, fun s args binds _ => pos1 (fun _ => rfl) s args binds⟩
    · exact ⟨rfl, _, _, _, _, _, _, rfl, rfl, rfl, rfl, rfl, rfl, rfl, rfl, rfl, rfl, rfl, rfl, fun s args binds _ => pos1 (fun _ => rfl) s args binds⟩
    · exact ⟨rfl, _, _, _, _, _, _, rfl, rfl, rfl, rfl, rfl, rfl, rfl, rfl, rfl, rfl, rfl, rfl, fun s args binds _ => pos1 (fun _ => rfl) s args binds⟩
    · exact ⟨rfl, _, _, _, _, _, _, rfl, rfl, rfl, rfl, rfl, rfl, rfl, rfl, rfl, rfl, rfl, rfl, q_binds (fun _ _ => rfl) (fun _ _ _ => rfl) (fun _ _ _ _ => rfl)⟩
    · exact ⟨rfl, _, _, _, _, _, _, rfl, rfl, rfl, rfl, rfl, rfl, rfl, rfl, rfl, rfl, rfl, rfl, fun s args binds _ => pos2 (fun _ _ => rfl) s args binds⟩
    · exact ⟨rfl, _, _, _, _, _, _, rfl, rfl, rfl, rfl, rfl, rfl, rfl, rfl, rfl, rfl, rfl, rfl, fun s args binds _ => pos2 (fun _ _ => rfl) s args binds⟩
    · exact ⟨rfl, _, _, _, _, _, _, rfl, rfl, rfl, rfl, rfl, rfl, rfl, rfl, rfl, rfl, rfl, rfl, fun s args binds _ => pos5 (fun _ _ _ _ _ => rfl) s args binds⟩
    · exact ⟨rfl, _, _, _, _, _, _, rfl, rfl, rfl, rfl, rfl, rfl, rfl, rfl, rfl, rfl, rfl, rfl, fun s args binds _ => pos3 (fun _ _ _ => rfl) s args binds⟩
    · exact ⟨rfl, _, _, _, _, _, _, rfl, rfl, rfl, rfl, rfl, rfl, rfl, rfl, rfl, rfl, rfl, rfl, fun s args binds _ => pos2 (fun _ _ => rfl) s args binds⟩
    · exact ⟨rfl, _, _, _, _, _, _, rfl, rfl, rfl, rfl, rfl, rfl, rfl, rfl, rfl, rfl, rfl, rfl, fun s args binds _ => pos4 (fun _ _ _ _ => rfl) s args binds⟩
    · exact ⟨rfl, _, _, _, _, _, _, rfl, rfl, rfl, rfl, rfl, rfl, rfl, rfl, rfl, rfl, rfl, rfl, fun s args binds _ => pos3 (fun _ _ _ => rfl) s args binds⟩
    · exact ⟨rfl, _, _, _, _, _, _, rfl, rfl, rfl, rfl, rfl, rfl, rfl, rfl, rfl, rfl, rfl, rfl, fun s args binds _ => pos1 (fun _ => rfl) s args binds⟩
  · simp only [builtinList, List.mem_cons, List.not_mem_nil, or_false] at hp
    rcases hp with rfl | rfl | rfl | rfl | rfl | rfl | rfl | rfl | rfl | rfl <;> rfl
  · rfl
  · rfl
end Mine
end

section
open PySem PySem.W
set_option Elab.async false
set_option linter.unusedVariables false
set_option linter.unusedSectionVars false
set_option maxRecDepth 100000
set_option maxHeartbeats 4000000
open PyProof.Rows
namespace Mine
theorem ints_list {h : Heap} {a : Addr} {vs : List Value} {xs : List Int} (hl : h.IsList a vs.toArray) (hi : IntsAre vs xs) [Lim] : (rList rInt).is (fun _ => True) h (.ref a) xs :=
  ⟨a, vs.toArray, rfl, trivial, hl, paired_ints hi⟩
noncomputable def lawD (mg mb : Str → Option Value) (bl : ∀ p ∈ builtinList, mg p.1 = none ∧ mb p.1 = some p.2) (fl : ∀ p ∈ lawFns, mg p.1 = some (.ref p.2.1)) : Wd :=
  ⟨mg, mb, bl, fun x => lawFns.lookup x, fun x a F h => fl (x, a, F) (mem_of_lookup h)⟩
theorem join {K : Frag} {prog : Program} {w : World} {s₁ : Shared} {mg mb : Str → Option Value} {fa a : Addr} {vs : List Value} {xs : List Int} {cl : Str → Option Addr} {mean : ExcName → Option Value} {E : Value → Shared → Prop}
    (kf : KFacts K) (KX : K.In s₁.heap) (hT : s₁.heap.get? 95 = some (tabObj #[])) (TG : s₁.heap.Ns mainGlobals mg) (TB : s₁.heap.Ns builtinsNs mb) (TN : s₁.heap.NoLimit) (Tbi : ∀ x : Str, x ≠ "__name__" → mb x = bootBuiltins x)
    (Tbm : ∃ bm ob, mg "__builtins__" = some (.ref bm) ∧ bm ≠ builtinsNs ∧ s₁.heap.get? bm = some ob ∧ ob.cls = .type "module" ∧ ob.dict = some builtinsNs ∧ ob.data = .plain)
    (hmg : mg "law" = some (.ref fa)) (hg : s₁.gens = #[]) (hl : s₁.heap.IsList a vs.toArray) (hI : IntsAre vs xs) (hlen : xs.length ≤ 63) (ok : okLaw (rowS xs) (weakS xs) = true) :
    wpAny (model prog w) callerA (call (.ref fa) [.ref a] []) (fun v s' => GoodWG Challenge.rw_sc0053_01.row.claim cl mean [ofPy (.list (xs.map .int))] s₁ (.ok (.ret v)) s') E s₁ := by
  obtain ⟨N, hbig, hlt⟩ := top_addr s₁.heap 95 _ hT
  letI : Lim := ⟨N⟩
  have hlt' : ∀ a o, s₁.heap.get? a = some o → a < Lim.n := hlt
  have bl : ∀ p ∈ builtinList, mg p.1 = none ∧ mb p.1 = some p.2 := fun p hp => ⟨mg_none_of KX TG (kf.bi p hp), (Tbi _ (bi_boot p hp).1).trans (bi_boot p hp).2⟩
  have fl : ∀ p ∈ lawFns, mg p.1 = some (.ref p.2.1) := fun p hp => mg_of KX TG (kf.fn p hp).1
  have hfa : fa = 118 := by
    have := fl ("law", 118, fLaw) (by simp [lawFns])
    dsimp only at this
    rw [hmg] at this
    cases this; rfl
  subst hfa
  have C : CodeHd s₁.heap 97 95 := codeHd_of_K KX kf.hd
  have hTabs : TabsAt [((97 : Addr), (95 : Addr))] s₁.heap := fun q hq => by
    rw [List.mem_singleton.mp hq]; exact ⟨C, hT⟩
  have KG : K.In (hid s₁.heap 95) := ghost_K hTabs KX kf.nt
  have hltG : ∀ a o, (hid s₁.heap 95).get? a = some o → a < Lim.n := fun a o e => hlt a o (of_hid e)
  have hW : (lawD mg mb bl fl).Ok (hid s₁.heap 95) := by
    refine ⟨ghost_ns hTabs TG, ghost_ns hTabs TB, ?_, ?_, fun x a F h => fnOk_of (kf.fn (x, a, F) (mem_of_lookup h)).2 KG hltG⟩
    · obtain ⟨mc, hm, r⟩ := TN
      exact ⟨mc, ghost_ns hTabs hm, r⟩
    · obtain ⟨b, o, h1, h2⟩ := hbig
      by_cases q : b = 95
      · exact ⟨118, _, Nat.le_trans h1 (by rw [q]; decide), KG _ _ (kf.fn ("law", 118, fLaw) (by simp [lawFns])).2.choose_spec.choose_spec.choose_spec.choose_spec.choose_spec.choose_spec.1⟩
      · exact ⟨b, o, h1, hid_ne h2 q⟩
  have hb : s₁.heap.BuiltinsAt (lawD mg mb bl fl).mg 95 := by
    obtain ⟨bm, ob, a1, a2, a3, a4, a5, a6⟩ := Tbm
    refine ⟨bm, ob, a1, a2, fun q => ?_, fun q => ?_, a3, a4, a5, a6⟩
    · obtain ⟨o, es, ep, e, hd, _⟩ := TG
      rw [q, e] at a3; cases a3; rw [hd] at a6; cases a6
    · rw [q, hT] at a3; cases a3; cases a4
  have hfc : ∃ o fd, s₁.heap.get? 98 = some o ∧ o.data = .func fd ∧ fd.code = .ref 97 := by
    obtain ⟨o, fd, h1, h2, h3⟩ := kf.nc
    exact ⟨o, fd, KX _ _ h1, h2, h3⟩
  refine wpAny_mono (law_top (D := lawD mg mb bl fl) (T := 95) (cN := 97) (aLaw := 118) (aRi := 79) (aPi := 86) (aNx := 98) (aF := 93) (aSu := 103) (aPk := 108) (aCo := 113) (aL := 32) (aR := 23) (aMl := 59) (aMh := 66) (aMd := 52) (aQu := 74)
    rfl rfl rfl rfl rfl rfl rfl rfl rfl rfl rfl rfl rfl rfl hlen ok hW (ints_list hl hI) hfc C hb hT) (fun v s' z => ?_) fun _ _ e => e
  obtain ⟨rfl, ps', k, h', tk, e⟩ := z
  have hos : s'.os = s₁.os := by rw [e]
  have hgs : s'.gens = s₁.gens := by rw [e]
  refine ⟨.inl ⟨.bool true, .bool true, [], rfl, fun cls => rfl, .bool true, ?_, fun _ => ⟨List.nodup_nil, nofun⟩⟩, oldK_of C hT hlt' k, hos, .of_eq (hgs.trans hg)⟩
  wrow_post
end Mine
end

section
open PySem PySem.W
set_option Elab.async false
set_option linter.unusedVariables false
set_option linter.unusedSectionVars false
set_option maxRecDepth 100000
set_option maxHeartbeats 4000000
open PyProof.Rows
namespace Mine
theorem main (hok : ∀ xs : List Int, okLaw (rowS xs) (weakS xs) = true) : PySem.Challenge.rw_sc0053_01.Holds := by
  w_on
  refine holds_law said_ok fun said => ?_
  refine holds_open (q := viewQ) (loose := ["bisect_right", "bisect_left", "quantiles"]) (Xt := fun s => xlAt viewQ [] s && recOk (RowW.records rW) s) (XP := XL viewQ []) (Yf := Hook.obs KH) (Ya := Hook.val KH) (YP := Hook.says KH) (N := 1442) left_ok (Hook.of KH) (Hook.keeps KH)
    (fun s e => xl_of s (Bool.and_eq_true_iff.mp e).1) XL.keeps (by rfl) (by rfl) (by rfl) (fun s e => recFacts_of (Bool.and_eq_true_iff.mp e).2) (by rfl) (by assumption) (by decide +kernel) ⟨rfl, rfl, rfl, rfl, rfl, by decide +kernel⟩ ?hw ?hc
  case hw => w_witness2
  case hc =>
    k_fill
    intro w s₀ s₁ mg mb G Y fa o pm cd doc dV kV ho hd hcd hD hmg hg args vals as hpre hlay hrd hwl hlo
    have KX := km_in_of Y
    have hT := km_tabs_of Y 95 (by simp)
    refine Ground.open G ?_
    intro T B D TE TW
    wrow_args hpre hlay hrd hwl hlo
    rename_i hlen _
    exact join (kfacts _) KX hT T.g T.b T.nolimit T.builtins T.bmain hmg hg (by assumption) (by assumption) (by omega) (hok _)
end Mine
end

section
set_option Elab.async false
set_option linter.unusedVariables false
set_option linter.unusedSectionVars false
set_option maxRecDepth 10000
set_option maxHeartbeats 4000000
namespace Mine
/-- equality, looked at -/
noncomputable def eqLL : List (List Int) → List (List Int) → Bool := fun a b => decide (a = b)
/-- the numbers' test of a column -/
noncomputable def colB (row column : List Int) : Bool := decide (0 < column.length) && eqI [medHigh (column.map (colNum row)), medLow (column.map (colNum row))] [colNum row (medLow column), colNum row (medHigh column)]
/-- the rest of a column's tests, in which of the row its length alone stands -/
noncomputable def colA (N : Nat) (column picks : List Int) : Bool :=
  decide (1 ≤ column.length) && decide (column.length ≤ 14) && decide (N < 100) && decide (picks.length < 100) && column.all (inN N) && inN N (medLow column) && inN N (medHigh column) &&
  eqI [medLow column, medHigh column] (pick picks none (some 2) none) && eqI column (pick column none none none) && eqI (pick column none (some 1) none) [column.getD 0 0] &&
  (if column.length % 2 = 1 then medLow column == medHigh column else decide (-40 ≤ medLow column + medHigh column) && decide (medLow column + medHigh column ≤ 40)) && decide ((pick picks (some 2) none none).length < 100) &&
  if column.length = 1 then eqI (List.replicate 3 column).flatten (List.replicate 3 (pick picks (some 2) none none)).flatten else okCol2 column.length (isort column) (pick picks (some 2) none none)
theorem okCol_of {row column picks : List Int} (a : colA row.length column picks = true) (b : colB row column = true) : okCol row column picks = true := by
  unfold colA at a
  unfold colB at b
  unfold okCol
  rw [Bool.and_eq_true] at b
  simp only [Bool.and_eq_true] at a ⊢
  obtain ⟨⟨⟨⟨⟨⟨⟨⟨⟨⟨⟨⟨h1, h2⟩, h3⟩, h4⟩, h5⟩, h6⟩, h7⟩, h8⟩, h9⟩, h10⟩, h12⟩, h13⟩, h14⟩ := a
  exact ⟨⟨⟨⟨⟨⟨⟨⟨⟨⟨⟨⟨⟨h1, h2⟩, h3⟩, h4⟩, h5⟩, h6⟩, h7⟩, h8⟩, h9⟩, h10⟩, b.2⟩, h12⟩, h13⟩, h14⟩
noncomputable def colsOf (N : Nat) (rs : List (List Int)) (k : Int) : List Int := rs.map fun rise => rise.getD k.toNat 0 - (N : Int)
noncomputable def backs' (N : Nat) (pk : List (List Int)) : List (List Int) := pk.map fun places => places.map fun place => place - (N : Int)
noncomputable def tail2 (N : Nat) (weak : Bool) (rs ps nx sm pk : List (List Int)) : Bool :=
  decide (N < 100) && okSums ps nx && decide (1 ≤ rs.length) && decide (rs.length ≤ 14) && decide (ps.length ≤ 20) && rs.all (fun r => decide (r.length = ps.length)) &&
  decide (sm.length = ps.length) && sm.all (fun l => decide (0 < l.length) && decide (l.length < 100) && (l.getD (l.length - 1) 0 == (rs.length : Int))) &&
  (rng 0 ((ps.length : Int)).toNat).all (fun k => okPicks (atE ps k) (atE sm k) rs.length weak) && pk.all (fun p => decide (p.length = rs.length + 2)) &&
  (linesOf rs pk ps.length).all (inRs rs) && (rng 0 ((rs.length : Int) - 1).toNat).all (fun turn => decide (0 < (pairOf rs turn).length) && decide ((pairOf rs turn).length < 64)) && (rng 0 ((ps.length : Int)).toNat).all (fun k => colA N (colsOf N rs k) (atE (backs' N pk) k))
/-- a datum: the rises, the piles, the nexts, the sums, the picks -/
structure Dat where
  N : Nat
  weak : Bool
  rs : List (List Int)
  ps : List (List Int)
  nx : List (List Int)
  sm : List (List Int)
  pk : List (List Int)
noncomputable def tailOk (d : Dat) : Bool := eqLL (sums d.ps d.nx) d.sm && eqLL (picksOf d.ps d.sm d.rs.length d.weak) d.pk && tail2 d.N d.weak d.rs d.ps d.nx d.sm d.pk
noncomputable def headOk (row : List Int) (d : Dat) : Bool :=
  decide (row.length = d.N) && okRises (below row d.weak) row.length && eqLL (rises (below row d.weak) row.length) d.rs && eqLL (piles row d.weak row.length) d.ps && eqLL (nextsOf row d.ps d.weak) d.nx && okNexts row d.ps d.weak &&
  (rng 0 ((d.ps.length : Int)).toNat).all fun k => colB row (columnOf row d.rs k)
theorem okLaw_of {row : List Int} {d : Dat} (h : headOk row d = true) (t : tailOk d = true) : okLaw row d.weak = true := by
  obtain ⟨N, weak, rs, ps, nx, sm, pk⟩ := d
  unfold headOk at h
  unfold tailOk at t
  simp only [Bool.and_eq_true, decide_eq_true_eq, eqLL] at h t
  obtain ⟨⟨⟨⟨⟨⟨h1, h2⟩, h3⟩, h4⟩, h5⟩, h6⟩, h7⟩ := h
  obtain ⟨⟨t1, t2⟩, t3⟩ := t
  unfold okLaw
  rw [h3, h4, h5, t1, t2, h2, Bool.true_and]
  subst h1
  unfold tail2 at t3
  unfold okLaw2
  simp only [Bool.and_eq_true] at t3 ⊢
  obtain ⟨⟨⟨⟨⟨⟨⟨⟨⟨⟨⟨⟨k1, k3⟩, k4⟩, k5⟩, k6⟩, k7⟩, k8⟩, k9⟩, k10⟩, k11⟩, k12⟩, k14⟩, k13⟩ := t3
  refine ⟨⟨⟨⟨⟨⟨⟨⟨⟨⟨⟨⟨⟨k1, h6⟩, k3⟩, k4⟩, k5⟩, k6⟩, k7⟩, k8⟩, k9⟩, k10⟩, k11⟩, k12⟩, k14⟩, ?_⟩
  rw [List.all_eq_true] at h7 k13 ⊢
  exact fun k hk => okCol_of (k13 k hk) (h7 k hk)
end Mine
end

section
set_option Elab.async false
set_option linter.unusedVariables false
set_option linter.unusedSectionVars false
set_option maxRecDepth 10000
set_option maxHeartbeats 4000000
namespace Mine
noncomputable def vN (row : List Int) (i : Nat) : Int := row.getD i 1
/-- the same order -/
noncomputable def OE (row row' : List Int) : Prop := row.length = row'.length ∧ ∀ i j : Nat, (vN row i < vN row j ↔ vN row' i < vN row' j)
theorem OE.lt {row row' : List Int} (h : OE row row') (i j : Nat) : (vN row i < vN row j) ↔ (vN row' i < vN row' j) := h.2 i j
theorem OE.eq {row row' : List Int} (h : OE row row') (i j : Nat) : (vN row i = vN row j) ↔ (vN row' i = vN row' j) := by
  have a := h.2 i j
  have b := h.2 j i
  omega
theorem OE.le {row row' : List Int} (h : OE row row') (i j : Nat) : (vN row i ≤ vN row j) ↔ (vN row' i ≤ vN row' j) := by
  have b := h.2 j i
  omega
theorem beq_iff_of {a b c d : Int} (h : a = b ↔ c = d) : (a == b) = (c == d) := by
  rw [Bool.eq_iff_iff, beq_iff_eq, beq_iff_eq]; exact h
theorem OE.below {row row' : List Int} (h : OE row row') (weak : Bool) : below row weak = below row' weak := by
  funext k j
  unfold Mine.below
  have a := h.lt k.toNat j.toNat
  have b := h.eq k.toNat j.toNat
  unfold vN at a b
  rw [decide_eq_decide.mpr a, beq_iff_of b]
theorem bl_congr {val val' : Nat → Int} {x x' : Int} : ∀ (f lo hi : Nat), (∀ m, m < hi → (val m < x ↔ val' m < x')) → bl val x f lo hi = bl val' x' f lo hi
  | 0, lo, hi, _ => rfl
  | f + 1, lo, hi, h => by
    rw [bl, bl]
    by_cases c : lo < hi
    · have hm : (lo + hi) / 2 < hi := by omega
      rw [if_pos c, if_pos c]
      by_cases d : val ((lo + hi) / 2) < x
      · rw [if_pos d, if_pos ((h _ hm).mp d), bl_congr f _ _ h]
      · rw [if_neg d, if_neg (fun q => d ((h _ hm).mpr q)), bl_congr f _ _ fun m hmm => h m (by omega)]
    · rw [if_neg c, if_neg c]
theorem br_congr {val val' : Nat → Int} {x x' : Int} : ∀ (f lo hi : Nat), (∀ m, m < hi → (x < val m ↔ x' < val' m)) → br val x f lo hi = br val' x' f lo hi
  | 0, lo, hi, _ => rfl
  | f + 1, lo, hi, h => by
    rw [br, br]
    by_cases c : lo < hi
    · have hm : (lo + hi) / 2 < hi := by omega
      rw [if_pos c, if_pos c]
      by_cases d : x < val ((lo + hi) / 2)
      · rw [if_pos d, if_pos ((h _ hm).mp d), br_congr f _ _ fun m hmm => h m (by omega)]
      · rw [if_neg d, if_neg (fun q => d ((h _ hm).mpr q)), br_congr f _ _ h]
    · rw [if_neg c, if_neg c]
/-- numbers of the row, by their places -/
noncomputable def byP (row : List Int) (I : List Nat) : List Int := I.map (vN row)
theorem byP_len (row : List Int) (I : List Nat) : (byP row I).length = I.length := List.length_map _
theorem byP_get (row : List Int) (I : List Nat) (d : Int) {m : Nat} (h : m < I.length) : (byP row I).getD m d = vN row (I.getD m 0) := by
  unfold byP
  rw [List.getD_eq_getElem?_getD, List.getD_eq_getElem?_getD, List.getElem?_map, List.getElem?_eq_getElem h]
  rfl
theorem OE.sW {row row' : List Int} (h : OE row row') (weak : Bool) (I : List Nat) (p : Nat) : sW weak (byP row I) (vN row p) = sW weak (byP row' I) (vN row' p) := by
  unfold Mine.sW sR sL brw blw
  rw [byP_len, byP_len]
  cases weak with
  | true => exact br_congr _ _ _ fun m hm => by rw [byP_get _ _ _ hm, byP_get _ _ _ hm]; exact h.lt _ _
  | false => exact bl_congr _ _ _ fun m hm => by rw [byP_get _ _ _ hm, byP_get _ _ _ hm]; exact h.lt _ _
theorem OE.pst {row row' : List Int} (h : OE row row') (weak : Bool) : ∀ i, ∃ I, (pst row weak i).1 = byP row I ∧ (pst row' weak i).1 = byP row' I ∧ (pst row weak i).2 = (pst row' weak i).2
  | 0 => ⟨[], rfl, rfl, rfl⟩
  | i + 1 => by
    obtain ⟨I, e1, e2, e3⟩ := h.pst weak i
    have hs := h.sW weak I i
    rw [Mine.pst, Mine.pst]
    unfold pstep
    dsimp only
    rw [e1, e2, e3, byP_len, byP_len, Int.toNat_natCast]
    show ∃ J, (if Mine.sW weak (byP row I) (vN row i) = I.length then _ else _ : List Int × List (List Int)).1 = _ ∧ (if Mine.sW weak (byP row' I) (vN row' i) = I.length then _ else _ : List Int × List (List Int)).1 = _ ∧ (if Mine.sW weak (byP row I) (vN row i) = I.length then _ else _ : List Int × List (List Int)).2 = (if Mine.sW weak (byP row' I) (vN row' i) = I.length then _ else _ : List Int × List (List Int)).2
    rw [hs]
    by_cases c : Mine.sW weak (byP row' I) (vN row' i) = I.length
    · rw [if_pos c, if_pos c]
      exact ⟨I ++ [i], by unfold byP; rw [List.map_append]; rfl, by unfold byP; rw [List.map_append]; rfl, rfl⟩
    · have hs' : Mine.sW weak (byP row I) (row.getD i 1) = Mine.sW weak (byP row' I) (row'.getD i 1) := hs
      rw [if_neg c, if_neg c, hs']
      exact ⟨I.set (Mine.sW weak (byP row' I) (row'.getD i 1)) i, by unfold byP; rw [List.map_set]; rfl, by unfold byP; rw [List.map_set]; rfl, rfl⟩
theorem OE.piles {row row' : List Int} (h : OE row row') (weak : Bool) (m : Nat) : piles row weak m = piles row' weak m := by
  obtain ⟨I, _, _, e⟩ := h.pst weak m
  exact e
theorem OE.more {row row' : List Int} (h : OE row row') (pile : List Int) (place : Int) : moreOf row pile place = moreOf row' pile place := by
  unfold moreOf
  congr 1
  funext o
  exact decide_eq_decide.mpr (h.lt place.toNat o.toNat)
theorem OE.ample {row row' : List Int} (h : OE row row') (pile : List Int) (place : Int) : ampleOf row pile place = ampleOf row' pile place := by
  unfold ampleOf
  congr 1
  funext o
  exact decide_eq_decide.mpr (h.le place.toNat o.toNat)
theorem OE.next {row row' : List Int} (h : OE row row') (ps : List (List Int)) (weak : Bool) (k : Nat) (place : Int) : nextAt row ps weak k place = nextAt row' ps weak k place := by
  unfold nextAt fitOf
  rw [h.more, h.ample]
theorem OE.nextsOf {row row' : List Int} (h : OE row row') (ps : List (List Int)) (weak : Bool) : nextsOf row ps weak = nextsOf row' ps weak := by
  have st : ∀ i, nstep row ps weak i = nstep row' ps weak i := fun i => by
    funext u place
    unfold nstep
    rw [h.next]
  have : ∀ i, nxAt row ps weak i = nxAt row' ps weak i := fun i => by
    induction i with
    | zero => rw [nxAt, nxAt, h.1]
    | succ i ih => rw [nxAt, nxAt, ih, st]
  exact this _
theorem OE.bw {row row' : List Int} (h : OE row row') (b : Bool) (laid : List Int) (p : Int) (lo hi : Nat) : bw b (fun j => -rowAt row (laid.getD j 0)) (-rowAt row p) lo hi = bw b (fun j => -rowAt row' (laid.getD j 0)) (-rowAt row' p) lo hi := by
  unfold Mine.bw brw blw
  cases b with
  | true =>
    rw [if_pos rfl, if_pos rfl]
    exact br_congr _ _ _ fun m _ => by
      have := h.lt (laid.getD m 0).toNat p.toNat
      unfold rowAt
      unfold vN at this
      omega
  | false =>
    rw [if_neg (by simp), if_neg (by simp)]
    exact bl_congr _ _ _ fun m _ => by
      have := h.lt p.toNat (laid.getD m 0).toNat
      unfold rowAt
      unfold vN at this
      omega
theorem OE.okPlace {row row' : List Int} (h : OE row row') (ps : List (List Int)) (weak : Bool) (k : Nat) : okPlace row ps weak k = okPlace row' ps weak k := by
  funext place
  unfold Mine.okPlace fitOf
  rw [h.bw, h.bw, h.more, h.ample, h.next]
theorem OE.okNexts {row row' : List Int} (h : OE row row') (ps : List (List Int)) (weak : Bool) : okNexts row ps weak = okNexts row' ps weak := by
  unfold Mine.okNexts
  have : ∀ i, Mine.okPlace row ps weak i = Mine.okPlace row' ps weak i := fun i => h.okPlace ps weak i
  simp only [this, h.1]
-- sorting
theorem OE.ins {row row' : List Int} (h : OE row row') (p : Nat) : ∀ I : List Nat, ∃ J, J.length = I.length + 1 ∧ ins (vN row p) (byP row I) = byP row J ∧ ins (vN row' p) (byP row' I) = byP row' J
  | [] => ⟨[p], rfl, rfl, rfl⟩
  | i :: I => by
    obtain ⟨J, e0, e1, e2⟩ := h.ins p I
    show ∃ K, _ ∧ (if vN row p ≤ vN row i then _ else _) = _ ∧ (if vN row' p ≤ vN row' i then _ else _) = _
    by_cases c : vN row p ≤ vN row i
    · rw [if_pos c, if_pos ((h.le p i).mp c)]
      exact ⟨p :: i :: I, rfl, rfl, rfl⟩
    · rw [if_neg c, if_neg fun q => c ((h.le p i).mpr q)]
      exact ⟨i :: J, by rw [List.length_cons, e0, List.length_cons], congrArg (vN row i :: ·) e1, congrArg (vN row' i :: ·) e2⟩
theorem OE.isort {row row' : List Int} (h : OE row row') : ∀ I : List Nat, ∃ J, J.length = I.length ∧ isort (byP row I) = byP row J ∧ isort (byP row' I) = byP row' J
  | [] => ⟨[], rfl, rfl, rfl⟩
  | i :: I => by
    obtain ⟨J, e0, e1, e2⟩ := h.isort I
    obtain ⟨K, f0, f1, f2⟩ := h.ins i J
    refine ⟨K, by rw [f0, e0]; rfl, ?_, ?_⟩
    · show Mine.ins (vN row i) (Mine.isort (byP row I)) = _
      rw [e1, f1]
    · show Mine.ins (vN row' i) (Mine.isort (byP row' I)) = _
      rw [e2, f2]
theorem colNum_byP (row column : List Int) (N : Nat) (hN : row.length = N) : column.map (colNum row) = byP row (column.map fun p => (p + (N : Int)).toNat) := by
  subst hN
  unfold byP
  rw [List.map_map]
  rfl
theorem eqI_two (a b c d : Int) : eqI [a, b] [c, d] = ((a == c) && (b == d)) := by
  unfold eqI leq leq leq
  rw [Bool.and_true]
theorem OE.colB {row row' : List Int} (h : OE row row') (column : List Int) : colB row column = colB row' column := by
  unfold Mine.colB
  by_cases c0 : 0 < column.length
  · rw [colNum_byP row column _ rfl, colNum_byP row' column row.length h.1.symm]
    obtain ⟨J, e0, e1, e2⟩ := h.isort (column.map fun p => (p + (row.length : Int)).toNat)
    have hJ : 0 < J.length := by rw [e0, List.length_map]; exact c0
    have hv : ∀ p, colNum row p = vN row (p + (row.length : Int)).toNat := fun p => rfl
    have hv' : ∀ p, colNum row' p = vN row' (p + (row.length : Int)).toNat := fun p => by unfold colNum vN; rw [h.1]
    have hl : (byP row (column.map fun p => (p + (row.length : Int)).toNat)).length = J.length := by rw [byP_len, e0]
    have hl' : (byP row' (column.map fun p => (p + (row.length : Int)).toNat)).length = J.length := by rw [byP_len, e0]
    congr 1
    rw [eqI_two, eqI_two, hv, hv, hv', hv']
    unfold medHigh medLow
    rw [hl, hl', e1, e2, byP_get _ _ _ (by omega), byP_get _ _ _ (by omega), byP_get _ _ _ (by omega), byP_get _ _ _ (by omega)]
    congr 1
    · exact beq_iff_of (h.eq _ _)
    · by_cases q : J.length % 2 = 1
      · rw [if_pos q, if_pos q]; exact beq_iff_of (h.eq _ _)
      · rw [if_neg q, if_neg q]; exact beq_iff_of (h.eq _ _)
  · rw [decide_eq_false c0, Bool.false_and, Bool.false_and]
theorem OE.head {row row' : List Int} (h : OE row row') (d : Dat) : headOk row d = headOk row' d := by
  unfold headOk
  have hc : ∀ k, columnOf row d.rs k = columnOf row' d.rs k := fun k => by unfold columnOf; rw [h.1]
  simp only [h.below, h.piles, h.nextsOf, h.okNexts, h.colB, hc, h.1]
end Mine
end

section
open PySem PySem.W
set_option Elab.async false
set_option linter.unusedVariables false
set_option linter.unusedSectionVars false
set_option maxRecDepth 10000
set_option maxHeartbeats 4000000
namespace Mine
theorem pick_plain {α : Type} (xs : List α) (lo hi : Option Int) : pick xs lo hi none = (xs.drop (lo.elim 0 (clipAt xs.length))).take (hi.elim xs.length (clipAt xs.length) - lo.elim 0 (clipAt xs.length)) := by
  unfold pick
  rw [sliceBounds_plain]
  simp only [sliceRange_one]
  have := pick_run xs.toArray (lo.elim 0 (clipAt xs.length)) (hi.elim xs.length (clipAt xs.length) - lo.elim 0 (clipAt xs.length))
  simpa using this
theorem rowS3 (a b c : Int) (rest : List Int) : rowS (a :: b :: c :: rest) = [a, b, 3, 4, 1, 2, 2, 5, 4, c] := by
  unfold rowS
  rw [pick_plain, pick_plain]
  simp only [Option.elim, show (2 : Int) = ((2 : Nat) : Int) from rfl, show (3 : Int) = ((3 : Nat) : Int) from rfl, clipAt_nat, List.length_cons]
  rw [Nat.min_eq_left (by omega), Nat.min_eq_left (by omega)]
  rfl
/-- the number that stands for x among y and z -/
noncomputable def canA (x y z : Int) : Int :=
  if x < 1 then -((if x < y ∧ y < 1 then 1 else 0) + (if x < z ∧ z < 1 ∧ z ≠ y then 1 else 0))
  else if 5 < x then 6 + ((if y < x ∧ 5 < y then 1 else 0) + (if z < x ∧ 5 < z ∧ z ≠ y then 1 else 0))
  else x
theorem can_cls (x y z : Int) : (x < 1 ∧ canA x y z < 1) ∨ (5 < x ∧ 5 < canA x y z) ∨ (1 ≤ x ∧ x ≤ 5 ∧ canA x y z = x) := by
  unfold canA
  repeat' split
  all_goals omega
theorem can_rng (x y z : Int) : -2 ≤ canA x y z ∧ canA x y z ≤ 8 := by
  unfold canA
  repeat' split
  all_goals omega
theorem can_sym (x y z : Int) : canA x y z = canA x z y := by
  unfold canA
  by_cases e : z = y
  · rw [e]
  · have e' : y ≠ z := fun q => e q.symm
    simp only [ne_eq, e, e', not_false_eq_true, and_true]
    by_cases c : x < 1
    · rw [if_pos c, if_pos c, Int.add_comm]
    · rw [if_neg c, if_neg c]
      by_cases d : 5 < x
      · rw [if_pos d, if_pos d, Int.add_comm (if y < x ∧ 5 < y then (1 : Int) else 0)]
      · rw [if_neg d, if_neg d]
theorem can_lo {x y z : Int} (h : x < 1) : canA x y z = -((if x < y ∧ y < 1 then 1 else 0) + (if x < z ∧ z < 1 ∧ z ≠ y then 1 else 0)) := if_pos h
theorem can_hi {x y z : Int} (h : 5 < x) : canA x y z = 6 + ((if y < x ∧ 5 < y then 1 else 0) + (if z < x ∧ 5 < z ∧ z ≠ y then 1 else 0)) := (if_neg (by omega)).trans (if_pos h)
theorem can_lt {a b c : Int} (h : a < b) : canA a b c < canA b a c := by
  have ha := can_cls a b c
  have hb := can_cls b a c
  by_cases h1 : b < 1
  · rw [can_lo (by omega : a < 1), can_lo h1, if_pos ⟨h, h1⟩, if_neg (by omega : ¬ (b < a ∧ a < 1))]
    by_cases d : b < c ∧ c < 1 ∧ c ≠ a
    · rw [if_pos d, if_pos (by omega)]; decide
    · rw [if_neg d]
      by_cases d' : a < c ∧ c < 1 ∧ c ≠ b
      · rw [if_pos d']; decide
      · rw [if_neg d']; decide
  · by_cases h5 : 5 < a
    · rw [can_hi h5, can_hi (by omega : 5 < b), if_neg (by omega : ¬ (b < a ∧ 5 < b)), if_pos (⟨h, h5⟩ : a < b ∧ 5 < a)]
      by_cases d : c < a ∧ 5 < c ∧ c ≠ b
      · rw [if_pos d, if_pos (by omega)]; decide
      · rw [if_neg d]
        by_cases d' : c < b ∧ 5 < c ∧ c ≠ a
        · rw [if_pos d']; decide
        · rw [if_neg d']; decide
    · omega
theorem can_ab (a b c : Int) : (a < b ↔ canA a b c < canA b a c) ∧ (b < a ↔ canA b a c < canA a b c) := by
  have h1 := fun h => @can_lt a b c h
  have h2 := fun h => @can_lt b a c h
  by_cases e : a = b
  · subst e; constructor <;> constructor <;> intro h <;> omega
  · by_cases q : a < b
    · have := h1 q; omega
    · have := h2 (by omega); omega
theorem can_ac (a b c : Int) : (a < c ↔ canA a b c < canA c a b) ∧ (c < a ↔ canA c a b < canA a b c) := by
  rw [can_sym a b c]; exact can_ab a c b
theorem can_bc (a b c : Int) : (b < c ↔ canA b a c < canA c a b) ∧ (c < b ↔ canA c a b < canA b a c) := by
  rw [can_sym b a c, can_sym c a b]; exact can_ab b c a
theorem can_fix {x y z x' y' z' : Int} (h1 : x' < 1 ↔ x < 1) (h5 : 5 < x' ↔ 5 < x) (hy1 : y' < 1 ↔ y < 1) (hy5 : 5 < y' ↔ 5 < y) (hz1 : z' < 1 ↔ z < 1) (hz5 : 5 < z' ↔ 5 < z) (a1 : x' < y' ↔ x < y) (a2 : y' < x' ↔ y < x) (b1 : x' < z' ↔ x < z) (b2 : z' < x' ↔ z < x) (e : z' = y' ↔ z = y)
    (hx : x' = canA x y z) : canA x' y' z' = x' := by
  have hc := can_cls x y z
  have : canA x' y' z' = if x < 1 then -((if x < y ∧ y < 1 then 1 else 0) + (if x < z ∧ z < 1 ∧ z ≠ y then 1 else 0))
    else if 5 < x then 6 + ((if y < x ∧ 5 < y then 1 else 0) + (if z < x ∧ 5 < z ∧ z ≠ y then 1 else 0))
    else x' := by
    unfold canA
    simp only [h1, h5, hy1, hy5, hz1, hz5, a1, a2, b1, b2, ne_eq, e]
  rw [this]
  by_cases c1 : x < 1
  · rw [if_pos c1, hx]
    unfold canA
    rw [if_pos c1]
  · by_cases c5 : 5 < x
    · rw [if_neg c1, if_pos c5, hx]
      unfold canA
      rw [if_neg c1, if_pos c5]
    · rw [if_neg c1, if_neg c5]
/-- the numbers that stand for three -/
noncomputable def fixB (a b c : Int) : Bool := (canA a b c == a) && (canA b a c == b) && (canA c a b == c)
theorem can_all (a b c : Int) : ∃ a' b' c', fixB a' b' c' = true ∧ (-2 ≤ a' ∧ a' ≤ 8) ∧ (-2 ≤ b' ∧ b' ≤ 8) ∧ (-2 ≤ c' ∧ c' ≤ 8) ∧ ((a < 1 ∧ a' < 1) ∨ (5 < a ∧ 5 < a') ∨ (1 ≤ a ∧ a ≤ 5 ∧ a' = a)) ∧ ((b < 1 ∧ b' < 1) ∨ (5 < b ∧ 5 < b') ∨ (1 ≤ b ∧ b ≤ 5 ∧ b' = b)) ∧
    ((c < 1 ∧ c' < 1) ∨ (5 < c ∧ 5 < c') ∨ (1 ≤ c ∧ c ≤ 5 ∧ c' = c)) ∧ (a < b ↔ a' < b') ∧ (b < a ↔ b' < a') ∧ (a < c ↔ a' < c') ∧ (c < a ↔ c' < a') ∧ (b < c ↔ b' < c') ∧ (c < b ↔ c' < b') := by
  have ha := can_cls a b c
  have hb := can_cls b a c
  have hc := can_cls c a b
  have ra := can_rng a b c
  have rb := can_rng b a c
  have rc := can_rng c a b
  obtain ⟨ab, ba⟩ := can_ab a b c
  obtain ⟨ac, ca⟩ := can_ac a b c
  obtain ⟨bc, cb⟩ := can_bc a b c
  refine ⟨canA a b c, canA b a c, canA c a b, ?_, ra, rb, rc, ha, hb, hc, ab, ba, ac, ca, bc, cb⟩
  unfold fixB
  simp only [Bool.and_eq_true, beq_iff_eq]
  refine ⟨⟨can_fix (x := a) (y := b) (z := c) ?_ ?_ ?_ ?_ ?_ ?_ ab.symm ba.symm ac.symm ca.symm ?_ rfl, can_fix (x := b) (y := a) (z := c) ?_ ?_ ?_ ?_ ?_ ?_ ba.symm ab.symm bc.symm cb.symm ?_ rfl⟩, can_fix (x := c) (y := a) (z := b) ?_ ?_ ?_ ?_ ?_ ?_ ca.symm ac.symm cb.symm bc.symm ?_ rfl⟩
  all_goals omega
/-- two rows whose numbers stand pairwise alike -/
theorem oe_of {row row' : List Int} (L : List (Int × Int)) (hl : row.length = row'.length) (hm : ∀ i, (vN row i, vN row' i) ∈ L) (ho : ∀ p ∈ L, ∀ q ∈ L, (p.1 < q.1 ↔ p.2 < q.2)) : OE row row' :=
  ⟨hl, fun i j => ho _ (hm i) _ (hm j)⟩
theorem vN_nil (i : Nat) : vN [] i = 1 := by unfold vN; simp
theorem vN_zero (x : Int) (l : List Int) : vN (x :: l) 0 = x := rfl
theorem vN_succ (x : Int) (l : List Int) (i : Nat) : vN (x :: l) (i + 1) = vN l i := rfl
theorem mem_vN {L : List (Int × Int)} (h1 : (1, 1) ∈ L) : ∀ {row row' : List Int}, row.length = row'.length → (∀ p ∈ row.zip row', p ∈ L) → ∀ i, (vN row i, vN row' i) ∈ L
  | [], [], _, _, i => by rw [vN_nil]; exact h1
  | x :: l, x' :: l', hl, hp, 0 => by rw [vN_zero, vN_zero]; exact hp (x, x') (.head _)
  | x :: l, x' :: l', hl, hp, i + 1 => by rw [vN_succ, vN_succ]; exact mem_vN h1 (by simpa using hl) (fun p q => hp p (.tail _ q)) i
noncomputable abbrev Cls (x x' : Int) : Prop := (x < 1 ∧ x' < 1) ∨ (5 < x ∧ 5 < x') ∨ (1 ≤ x ∧ x ≤ 5 ∧ x' = x)
theorem cls_lt {x x' k : Int} (h : Cls x x') (h1 : 1 ≤ k) (h5 : k ≤ 5) : (x < k ↔ x' < k) := by unfold Cls at h; omega
theorem cls_gt {x x' k : Int} (h : Cls x x') (h1 : 1 ≤ k) (h5 : k ≤ 5) : (k < x ↔ k < x') := by unfold Cls at h; omega
theorem no_lt (x y : Int) : (x < x ↔ y < y) := ⟨fun h => absurd h (Int.lt_irrefl _), fun h => absurd h (Int.lt_irrefl _)⟩
noncomputable def cons5 : List (Int × Int) := [(1, 1), (2, 2), (3, 3), (4, 4), (5, 5)]
theorem cons5_mem {p : Int × Int} (h : p ∈ cons5) : p.2 = p.1 ∧ 1 ≤ p.1 ∧ p.1 ≤ 5 := by
  simp only [cons5, List.mem_cons, List.not_mem_nil, or_false] at h
  rcases h with rfl | rfl | rfl | rfl | rfl <;> decide
theorem oe3 {a b c a' b' c' : Int} (ha : Cls a a') (hb : Cls b b') (hc : Cls c c')
    (ab : a < b ↔ a' < b') (ba : b < a ↔ b' < a') (ac : a < c ↔ a' < c') (ca : c < a ↔ c' < a') (bc : b < c ↔ b' < c') (cb : c < b ↔ c' < b') : ∀ p ∈ [(a, a'), (b, b'), (c, c')] ++ cons5, ∀ q ∈ [(a, a'), (b, b'), (c, c')] ++ cons5, (p.1 < q.1 ↔ p.2 < q.2) := by
  have hcl : ∀ p ∈ [(a, a'), (b, b'), (c, c')], Cls p.1 p.2 := fun p hp => by
    simp only [List.mem_cons, List.not_mem_nil, or_false] at hp
    rcases hp with rfl | rfl | rfl
    · exact ha
    · exact hb
    · exact hc
  intro p hp q hq
  rcases List.mem_append.mp hp with hp | hp <;> rcases List.mem_append.mp hq with hq | hq
  · simp only [List.mem_cons, List.not_mem_nil, or_false] at hp hq
    rcases hp with rfl | rfl | rfl <;> rcases hq with rfl | rfl | rfl
    · exact no_lt _ _
    · exact ab
    · exact ac
    · exact ba
    · exact no_lt _ _
    · exact bc
    · exact ca
    · exact cb
    · exact no_lt _ _
  · obtain ⟨e, h1, h5⟩ := cons5_mem hq
    rw [e]; exact cls_lt (hcl p hp) h1 h5
  · obtain ⟨e, h1, h5⟩ := cons5_mem hp
    rw [e]; exact cls_gt (hcl q hq) h1 h5
  · rw [(cons5_mem hp).1, (cons5_mem hq).1]
end Mine
end

section
set_option Elab.async false
set_option linter.unusedVariables false
set_option linter.unusedSectionVars false
set_option maxRecDepth 10000
set_option maxHeartbeats 4000000
namespace Mine
/-- the rises' bounds, looked at once -/
noncomputable def okRises2 (bel : Int → Int → Bool) (m : Nat) : Bool :=
  decide (0 < m) && decide (m < 100) && decide ((rises bel m).length < 1000) && (endings bel m).all fun r => decide (0 < r.length) && decide (r.length < 1000) && r.all fun x => decide (x.length < 1000)
theorem okRises_of {bel : Int → Int → Bool} {m : Nat} (h : okRises2 bel m = true) : okRises bel m = true := by
  haveI : Lim := ⟨0⟩
  unfold okRises2 at h
  unfold okRises
  simp only [Bool.and_eq_true, decide_eq_true_eq, List.all_eq_true, List.mem_range] at h ⊢
  obtain ⟨⟨⟨h1, h2⟩, h3⟩, h4⟩ := h
  refine ⟨⟨⟨⟨h1, h2⟩, h3⟩, fun r hr => ⟨(h4 r hr).1.1, (h4 r hr).2⟩⟩, fun i hi => ?_⟩
  obtain ⟨t, et⟩ := endings_prefix bel (i + 1) m (by omega)
  have hm : entry bel (endings bel i) i ∈ endings bel m := by
    rw [et, endings]
    exact List.mem_append_left _ (List.mem_append_right _ (.head _))
  have hl := (h4 _ hm).1.2
  unfold entry at hl
  by_cases c : (!leq (fun a b : Int => a == b) (fitsOf bel i) []) = true
  · rw [if_pos c] at hl; exact hl
  · have : fitsOf bel i = [] := by
      cases q : fitsOf bel i with
      | nil => rfl
      | cons x l => rw [q] at c; exact absurd rfl c
    unfold longestOf
    rw [this]; simp
noncomputable def headOk2 (row : List Int) (d : Dat) : Bool :=
  decide (row.length = d.N) && okRises2 (below row d.weak) row.length && eqLL (rises (below row d.weak) row.length) d.rs && eqLL (piles row d.weak row.length) d.ps && eqLL (nextsOf row d.ps d.weak) d.nx && okNexts row d.ps d.weak &&
  (rng 0 ((d.ps.length : Int)).toNat).all fun k => colB row (columnOf row d.rs k)
theorem headOk_of {row : List Int} {d : Dat} (h : headOk2 row d = true) : headOk row d = true := by
  unfold headOk2 at h
  unfold headOk
  simp only [Bool.and_eq_true] at h ⊢
  obtain ⟨⟨⟨⟨⟨⟨h1, h2⟩, h3⟩, h4⟩, h5⟩, h6⟩, h7⟩ := h
  exact ⟨⟨⟨⟨⟨⟨h1, okRises_of h2⟩, h3⟩, h4⟩, h5⟩, h6⟩, h7⟩
end Mine
end

section
set_option Elab.async false
set_option maxRecDepth 100000
set_option maxHeartbeats 4000000
namespace Mine
noncomputable def d0 : Dat := ⟨10, true, [[0, 1, 4, 5, 6, 7], [0, 1, 4, 5, 6, 8]], [[0], [1], [2, 4, 9], [3, 5], [6], [7, 8]], [[1], [2, 4, 9], [3], [], [5], [6], [7, 8], [], [], []], [[2], [2], [0, 2, 2], [0, 2], [2], [1, 2]], [[0, 0, 0, 0], [1, 1, 1, 1], [4, 4, 4, 4], [5, 5, 5, 5], [6, 6, 6, 6], [7, 8, 7, 8]]⟩
theorem d0Ok : tailOk d0 = true := by decide +kernel
noncomputable def d1 : Dat := ⟨10, false, [[0, 1, 2, 3, 7], [0, 1, 4, 5, 7], [0, 1, 4, 6, 7], [0, 1, 4, 5, 8], [0, 1, 4, 6, 8]], [[0], [1], [2, 4, 9], [3, 5, 6], [7, 8]], [[1], [2, 4, 9], [3], [7], [5, 6], [7, 8], [7, 8], [], [], []], [[5], [5], [1, 5, 5], [1, 3, 5], [3, 5]], [[0, 0, 0, 0, 0, 0, 0], [1, 1, 1, 1, 1, 1, 1], [4, 4, 2, 4, 4, 4, 4], [5, 5, 3, 5, 5, 6, 6], [7, 7, 7, 7, 7, 8, 8]]⟩
theorem d1Ok : tailOk d1 = true := by decide +kernel
noncomputable def d2 : Dat := ⟨10, true, [[0, 1, 4, 5, 6, 7], [0, 1, 4, 5, 6, 8]], [[0], [1, 9], [2, 4], [3, 5], [6], [7, 8]], [[1, 9], [2, 4], [3], [], [5], [6], [7, 8], [], [], []], [[2], [2, 2], [0, 2], [0, 2], [2], [1, 2]], [[0, 0, 0, 0], [1, 1, 1, 1], [4, 4, 4, 4], [5, 5, 5, 5], [6, 6, 6, 6], [7, 8, 7, 8]]⟩
theorem d2Ok : tailOk d2 = true := by decide +kernel
noncomputable def d3 : Dat := ⟨10, false, [[0, 1, 2, 3, 7], [0, 1, 4, 5, 7], [0, 1, 4, 6, 7], [0, 1, 4, 5, 8], [0, 1, 4, 6, 8]], [[0], [1, 9], [2, 4], [3, 5, 6], [7, 8]], [[1, 9], [2, 4], [3], [7], [5, 6], [7, 8], [7, 8], [], [], []], [[5], [5, 5], [1, 5], [1, 3, 5], [3, 5]], [[0, 0, 0, 0, 0, 0, 0], [1, 1, 1, 1, 1, 1, 1], [4, 4, 2, 4, 4, 4, 4], [5, 5, 3, 5, 5, 6, 6], [7, 7, 7, 7, 7, 8, 8]]⟩
theorem d3Ok : tailOk d3 = true := by decide +kernel
noncomputable def d4 : Dat := ⟨10, true, [[0, 4, 5, 6, 7], [1, 4, 5, 6, 7], [0, 4, 5, 6, 8], [1, 4, 5, 6, 8]], [[0, 1], [2, 4, 9], [3, 5], [6], [7, 8]], [[2, 4, 9], [2, 4, 9], [3], [], [5], [6], [7, 8], [], [], []], [[2, 4], [0, 4, 4], [0, 4], [4], [2, 4]], [[0, 1, 0, 0, 1, 1], [4, 4, 4, 4, 4, 4], [5, 5, 5, 5, 5, 5], [6, 6, 6, 6, 6, 6], [7, 8, 7, 7, 8, 8]]⟩
theorem d4Ok : tailOk d4 = true := by decide +kernel
noncomputable def d5 : Dat := ⟨10, false, [[0, 2, 3, 7], [1, 2, 3, 7], [0, 4, 5, 7], [1, 4, 5, 7], [0, 4, 6, 7], [1, 4, 6, 7], [0, 4, 5, 8], [1, 4, 5, 8], [0, 4, 6, 8], [1, 4, 6, 8]], [[0, 1], [2, 4, 9], [3, 5, 6], [7, 8]], [[2, 4, 9], [2, 4, 9], [3], [7], [5, 6], [7, 8], [7, 8], [], [], []], [[5, 10], [2, 10, 10], [2, 6, 10], [6, 10]], [[0, 1, 0, 0, 0, 0, 0, 1, 1, 1, 1, 1], [4, 4, 2, 2, 4, 4, 4, 4, 4, 4, 4, 4], [5, 5, 3, 3, 5, 5, 5, 5, 6, 6, 6, 6], [7, 7, 7, 7, 7, 7, 7, 7, 8, 8, 8, 8]]⟩
theorem d5Ok : tailOk d5 = true := by decide +kernel
noncomputable def d6 : Dat := ⟨10, true, [[0, 1, 4, 5, 6, 7], [0, 1, 4, 5, 6, 8]], [[0, 9], [1], [2, 4], [3, 5], [6], [7, 8]], [[1], [2, 4], [3], [], [5], [6], [7, 8], [], [], []], [[2, 2], [2], [0, 2], [0, 2], [2], [1, 2]], [[0, 0, 0, 0], [1, 1, 1, 1], [4, 4, 4, 4], [5, 5, 5, 5], [6, 6, 6, 6], [7, 8, 7, 8]]⟩
theorem d6Ok : tailOk d6 = true := by decide +kernel
noncomputable def d7 : Dat := ⟨10, false, [[0, 1, 2, 3, 7], [0, 1, 4, 5, 7], [0, 1, 4, 6, 7], [0, 1, 4, 5, 8], [0, 1, 4, 6, 8]], [[0, 9], [1], [2, 4], [3, 5, 6], [7, 8]], [[1], [2, 4], [3], [7], [5, 6], [7, 8], [7, 8], [], [], []], [[5, 5], [5], [1, 5], [1, 3, 5], [3, 5]], [[0, 0, 0, 0, 0, 0, 0], [1, 1, 1, 1, 1, 1, 1], [4, 4, 2, 4, 4, 4, 4], [5, 5, 3, 5, 5, 6, 6], [7, 7, 7, 7, 7, 8, 8]]⟩
theorem d7Ok : tailOk d7 = true := by decide +kernel
noncomputable def d8 : Dat := ⟨10, true, [[0, 1, 4, 5, 6, 7], [0, 1, 4, 5, 6, 8]], [[0], [1], [2, 4], [3, 5, 9], [6], [7, 8]], [[1], [2, 4], [3], [], [5, 9], [6], [7, 8], [], [], []], [[2], [2], [0, 2], [0, 2, 2], [2], [1, 2]], [[0, 0, 0, 0], [1, 1, 1, 1], [4, 4, 4, 4], [5, 5, 5, 5], [6, 6, 6, 6], [7, 8, 7, 8]]⟩
theorem d8Ok : tailOk d8 = true := by decide +kernel
noncomputable def d9 : Dat := ⟨10, true, [[0, 1, 4, 5, 6, 7], [0, 1, 4, 5, 6, 8], [0, 1, 4, 5, 6, 9]], [[0], [1], [2, 4], [3, 5], [6], [7, 8, 9]], [[1], [2, 4], [3], [], [5], [6], [7, 8, 9], [], [], []], [[3], [3], [0, 3], [0, 3], [3], [1, 2, 3]], [[0, 0, 0, 0, 0], [1, 1, 1, 1, 1], [4, 4, 4, 4, 4], [5, 5, 5, 5, 5], [6, 6, 6, 6, 6], [8, 8, 7, 8, 9]]⟩
theorem d9Ok : tailOk d9 = true := by decide +kernel
noncomputable def d10 : Dat := ⟨10, false, [[0, 1, 2, 3, 7], [0, 1, 4, 5, 7], [0, 1, 4, 6, 7], [0, 1, 4, 5, 8], [0, 1, 4, 6, 8]], [[0], [1], [2, 4], [3, 5, 6, 9], [7, 8]], [[1], [2, 4], [3], [7], [5, 6, 9], [7, 8], [7, 8], [], [], []], [[5], [5], [1, 5], [1, 3, 5, 5], [3, 5]], [[0, 0, 0, 0, 0, 0, 0], [1, 1, 1, 1, 1, 1, 1], [4, 4, 2, 4, 4, 4, 4], [5, 5, 3, 5, 5, 6, 6], [7, 7, 7, 7, 7, 8, 8]]⟩
theorem d10Ok : tailOk d10 = true := by decide +kernel
noncomputable def d11 : Dat := ⟨10, false, [[0, 1, 2, 3, 7], [0, 1, 4, 5, 7], [0, 1, 4, 6, 7], [0, 1, 4, 5, 8], [0, 1, 4, 6, 8], [0, 1, 4, 5, 9], [0, 1, 4, 6, 9]], [[0], [1], [2, 4], [3, 5, 6], [7, 8, 9]], [[1], [2, 4], [3], [7], [5, 6], [7, 8, 9], [7, 8, 9], [], [], []], [[7], [7], [1, 7], [1, 4, 7], [3, 5, 7]], [[0, 0, 0, 0, 0, 0, 0, 0, 0], [1, 1, 1, 1, 1, 1, 1, 1, 1], [4, 4, 2, 4, 4, 4, 4, 4, 4], [5, 5, 3, 5, 5, 5, 6, 6, 6], [8, 8, 7, 7, 7, 8, 8, 9, 9]]⟩
theorem d11Ok : tailOk d11 = true := by decide +kernel
noncomputable def d12 : Dat := ⟨10, true, [[0, 1, 4, 5, 6, 8, 9]], [[0], [1], [2, 4], [3, 5], [6], [7, 8], [9]], [[1], [2, 4], [3], [], [5], [6], [7, 8], [], [9], []], [[1], [1], [0, 1], [0, 1], [1], [0, 1], [1]], [[0, 0, 0], [1, 1, 1], [4, 4, 4], [5, 5, 5], [6, 6, 6], [8, 8, 8], [9, 9, 9]]⟩
theorem d12Ok : tailOk d12 = true := by decide +kernel
noncomputable def d13 : Dat := ⟨10, true, [[0, 1, 4, 5, 6, 7, 9], [0, 1, 4, 5, 6, 8, 9]], [[0], [1], [2, 4], [3, 5], [6], [7, 8], [9]], [[1], [2, 4], [3], [], [5], [6], [7, 8], [9], [9], []], [[2], [2], [0, 2], [0, 2], [2], [1, 2], [2]], [[0, 0, 0, 0], [1, 1, 1, 1], [4, 4, 4, 4], [5, 5, 5, 5], [6, 6, 6, 6], [7, 8, 7, 8], [9, 9, 9, 9]]⟩
theorem d13Ok : tailOk d13 = true := by decide +kernel
noncomputable def d14 : Dat := ⟨10, false, [[0, 1, 4, 5, 8, 9], [0, 1, 4, 6, 8, 9]], [[0], [1], [2, 4], [3, 5, 6], [7, 8], [9]], [[1], [2, 4], [3], [7], [5, 6], [7, 8], [7, 8], [], [9], []], [[2], [2], [0, 2], [0, 1, 2], [0, 2], [2]], [[0, 0, 0, 0], [1, 1, 1, 1], [4, 4, 4, 4], [5, 6, 5, 6], [8, 8, 8, 8], [9, 9, 9, 9]]⟩
theorem d14Ok : tailOk d14 = true := by decide +kernel
noncomputable def d15 : Dat := ⟨10, false, [[0, 1, 2, 3, 7, 9], [0, 1, 4, 5, 7, 9], [0, 1, 4, 6, 7, 9], [0, 1, 4, 5, 8, 9], [0, 1, 4, 6, 8, 9]], [[0], [1], [2, 4], [3, 5, 6], [7, 8], [9]], [[1], [2, 4], [3], [7], [5, 6], [7, 8], [7, 8], [9], [9], []], [[5], [5], [1, 5], [1, 3, 5], [3, 5], [5]], [[0, 0, 0, 0, 0, 0, 0], [1, 1, 1, 1, 1, 1, 1], [4, 4, 2, 4, 4, 4, 4], [5, 5, 3, 5, 5, 6, 6], [7, 7, 7, 7, 7, 8, 8], [9, 9, 9, 9, 9, 9, 9]]⟩
theorem d15Ok : tailOk d15 = true := by decide +kernel
noncomputable def d16 : Dat := ⟨10, false, [[0, 1, 2, 3, 7]], [[0], [1, 4, 9], [2, 5, 6], [3, 8], [7]], [[1, 4, 9], [2, 5, 6], [3, 8], [7], [5, 6], [8], [8], [], [], []], [[1], [1, 1, 1], [1, 1, 1], [1, 1], [1]], [[0, 0, 0], [1, 1, 1], [2, 2, 2], [3, 3, 3], [7, 7, 7]]⟩
theorem d16Ok : tailOk d16 = true := by decide +kernel
noncomputable def d17 : Dat := ⟨10, true, [[0, 1, 2, 3, 7], [0, 1, 5, 6, 7], [0, 4, 5, 6, 7], [0, 1, 2, 3, 8], [0, 1, 5, 6, 8], [0, 4, 5, 6, 8]], [[0], [1, 4, 9], [2, 5], [3, 6], [7, 8]], [[1, 4, 9], [2, 5], [3], [7, 8], [5], [6], [7, 8], [], [], []], [[6], [4, 6, 6], [2, 6], [2, 6], [3, 6]], [[0, 0, 0, 0, 0, 0, 0, 0], [1, 1, 1, 1, 1, 1, 4, 4], [5, 5, 2, 2, 5, 5, 5, 5], [6, 6, 3, 3, 6, 6, 6, 6], [7, 8, 7, 7, 7, 8, 8, 8]]⟩
theorem d17Ok : tailOk d17 = true := by decide +kernel
noncomputable def d18 : Dat := ⟨10, false, [[0, 1, 2, 3, 7]], [[0], [1, 4, 9], [2, 5, 6], [3, 8], [7]], [[1, 4, 9], [2], [3, 8], [7], [5, 6], [8], [8], [], [], []], [[1], [1, 1, 1], [1, 1, 1], [1, 1], [1]], [[0, 0, 0], [1, 1, 1], [2, 2, 2], [3, 3, 3], [7, 7, 7]]⟩
theorem d18Ok : tailOk d18 = true := by decide +kernel
noncomputable def d19 : Dat := ⟨10, true, [[0, 1, 2, 3, 7], [0, 4, 5, 6, 7], [0, 1, 2, 3, 8], [0, 4, 5, 6, 8]], [[0], [1, 4, 9], [2, 5], [3, 6], [7, 8]], [[1, 4, 9], [2], [3], [7, 8], [5], [6], [7, 8], [], [], []], [[4], [2, 4, 4], [2, 4], [2, 4], [2, 4]], [[0, 0, 0, 0, 0, 0], [1, 4, 1, 1, 4, 4], [2, 5, 2, 2, 5, 5], [3, 6, 3, 3, 6, 6], [7, 8, 7, 7, 8, 8]]⟩
theorem d19Ok : tailOk d19 = true := by decide +kernel
noncomputable def d20 : Dat := ⟨10, false, [[0, 1, 3, 7], [0, 2, 3, 7], [0, 4, 5, 7], [0, 4, 6, 7], [0, 4, 5, 8], [0, 4, 6, 8]], [[0], [1, 2, 4, 9], [3, 5, 6], [7, 8]], [[1, 2, 4, 9], [3], [3], [7], [5, 6], [7, 8], [7, 8], [], [], []], [[6], [1, 2, 6, 6], [2, 4, 6], [4, 6]], [[0, 0, 0, 0, 0, 0, 0, 0], [4, 4, 1, 2, 4, 4, 4, 4], [5, 5, 3, 3, 5, 5, 6, 6], [7, 7, 7, 7, 7, 7, 8, 8]]⟩
theorem d20Ok : tailOk d20 = true := by decide +kernel
noncomputable def d21 : Dat := ⟨10, true, [[0, 4, 5, 6, 7], [0, 4, 5, 6, 8]], [[0], [1, 2, 4, 9], [3, 5], [6], [7, 8]], [[1, 2, 4, 9], [3], [3], [], [5], [6], [7, 8], [], [], []], [[2], [0, 0, 2, 2], [0, 2], [2], [1, 2]], [[0, 0, 0, 0], [4, 4, 4, 4], [5, 5, 5, 5], [6, 6, 6, 6], [7, 8, 7, 8]]⟩
theorem d21Ok : tailOk d21 = true := by decide +kernel
noncomputable def d22 : Dat := ⟨10, false, [[0, 2, 3, 7], [0, 4, 5, 7], [0, 4, 6, 7], [0, 4, 5, 8], [0, 4, 6, 8]], [[0], [1, 2, 4, 9], [3, 5, 6], [7, 8]], [[1, 2, 4, 9], [], [3], [7], [5, 6], [7, 8], [7, 8], [], [], []], [[5], [0, 1, 5, 5], [1, 3, 5], [3, 5]], [[0, 0, 0, 0, 0, 0, 0], [4, 4, 2, 4, 4, 4, 4], [5, 5, 3, 5, 5, 6, 6], [7, 7, 7, 7, 7, 8, 8]]⟩
theorem d22Ok : tailOk d22 = true := by decide +kernel
noncomputable def d23 : Dat := ⟨10, true, [[0, 4, 5, 6, 7], [0, 4, 5, 6, 8]], [[0], [1, 2, 4, 9], [3, 5], [6], [7, 8]], [[1, 2, 4, 9], [], [3], [], [5], [6], [7, 8], [], [], []], [[2], [0, 0, 2, 2], [0, 2], [2], [1, 2]], [[0, 0, 0, 0], [4, 4, 4, 4], [5, 5, 5, 5], [6, 6, 6, 6], [7, 8, 7, 8]]⟩
theorem d23Ok : tailOk d23 = true := by decide +kernel
noncomputable def d24 : Dat := ⟨10, true, [[0, 4, 5, 6, 7], [1, 4, 5, 6, 7], [0, 4, 5, 6, 8], [1, 4, 5, 6, 8]], [[0, 1], [2, 4, 9], [3, 5], [6], [7, 8]], [[2, 4], [2, 4, 9], [3], [], [5], [6], [7, 8], [], [], []], [[2, 4], [0, 4, 4], [0, 4], [4], [2, 4]], [[0, 1, 0, 0, 1, 1], [4, 4, 4, 4, 4, 4], [5, 5, 5, 5, 5, 5], [6, 6, 6, 6, 6, 6], [7, 8, 7, 7, 8, 8]]⟩
theorem d24Ok : tailOk d24 = true := by decide +kernel
noncomputable def d25 : Dat := ⟨10, false, [[0, 2, 3, 7], [1, 2, 3, 7], [0, 4, 5, 7], [1, 4, 5, 7], [0, 4, 6, 7], [1, 4, 6, 7], [0, 4, 5, 8], [1, 4, 5, 8], [0, 4, 6, 8], [1, 4, 6, 8]], [[0, 1], [2, 4, 9], [3, 5, 6], [7, 8]], [[2, 4], [2, 4, 9], [3], [7], [5, 6], [7, 8], [7, 8], [], [], []], [[5, 10], [2, 10, 10], [2, 6, 10], [6, 10]], [[0, 1, 0, 0, 0, 0, 0, 1, 1, 1, 1, 1], [4, 4, 2, 2, 4, 4, 4, 4, 4, 4, 4, 4], [5, 5, 3, 3, 5, 5, 5, 5, 6, 6, 6, 6], [7, 7, 7, 7, 7, 7, 7, 7, 8, 8, 8, 8]]⟩
theorem d25Ok : tailOk d25 = true := by decide +kernel
noncomputable def d26 : Dat := ⟨10, true, [[0, 4, 5, 6, 7], [1, 4, 5, 6, 7], [0, 4, 5, 6, 8], [1, 4, 5, 6, 8]], [[0, 1, 9], [2, 4], [3, 5], [6], [7, 8]], [[2, 4], [2, 4], [3], [], [5], [6], [7, 8], [], [], []], [[2, 4, 4], [0, 4], [0, 4], [4], [2, 4]], [[0, 1, 0, 0, 1, 1], [4, 4, 4, 4, 4, 4], [5, 5, 5, 5, 5, 5], [6, 6, 6, 6, 6, 6], [7, 8, 7, 7, 8, 8]]⟩
theorem d26Ok : tailOk d26 = true := by decide +kernel
noncomputable def d27 : Dat := ⟨10, false, [[0, 2, 3, 7], [1, 2, 3, 7], [0, 4, 5, 7], [1, 4, 5, 7], [0, 4, 6, 7], [1, 4, 6, 7], [0, 4, 5, 8], [1, 4, 5, 8], [0, 4, 6, 8], [1, 4, 6, 8]], [[0, 1, 9], [2, 4], [3, 5, 6], [7, 8]], [[2, 4], [2, 4], [3], [7], [5, 6], [7, 8], [7, 8], [], [], []], [[5, 10, 10], [2, 10], [2, 6, 10], [6, 10]], [[0, 1, 0, 0, 0, 0, 0, 1, 1, 1, 1, 1], [4, 4, 2, 2, 4, 4, 4, 4, 4, 4, 4, 4], [5, 5, 3, 3, 5, 5, 5, 5, 6, 6, 6, 6], [7, 7, 7, 7, 7, 7, 7, 7, 8, 8, 8, 8]]⟩
theorem d27Ok : tailOk d27 = true := by decide +kernel
noncomputable def d28 : Dat := ⟨10, true, [[0, 4, 5, 6, 7], [1, 4, 5, 6, 7], [0, 4, 5, 6, 8], [1, 4, 5, 6, 8]], [[0, 1], [2, 4], [3, 5, 9], [6], [7, 8]], [[2, 4], [2, 4], [3], [], [5, 9], [6], [7, 8], [], [], []], [[2, 4], [0, 4], [0, 4, 4], [4], [2, 4]], [[0, 1, 0, 0, 1, 1], [4, 4, 4, 4, 4, 4], [5, 5, 5, 5, 5, 5], [6, 6, 6, 6, 6, 6], [7, 8, 7, 7, 8, 8]]⟩
theorem d28Ok : tailOk d28 = true := by decide +kernel
noncomputable def d29 : Dat := ⟨10, true, [[0, 4, 5, 6, 7], [1, 4, 5, 6, 7], [0, 4, 5, 6, 8], [1, 4, 5, 6, 8], [0, 4, 5, 6, 9], [1, 4, 5, 6, 9]], [[0, 1], [2, 4], [3, 5], [6], [7, 8, 9]], [[2, 4], [2, 4], [3], [], [5], [6], [7, 8, 9], [], [], []], [[3, 6], [0, 6], [0, 6], [6], [2, 4, 6]], [[0, 1, 0, 0, 0, 1, 1, 1], [4, 4, 4, 4, 4, 4, 4, 4], [5, 5, 5, 5, 5, 5, 5, 5], [6, 6, 6, 6, 6, 6, 6, 6], [8, 8, 7, 7, 8, 8, 9, 9]]⟩
theorem d29Ok : tailOk d29 = true := by decide +kernel
noncomputable def d30 : Dat := ⟨10, false, [[0, 2, 3, 7], [1, 2, 3, 7], [0, 4, 5, 7], [1, 4, 5, 7], [0, 4, 6, 7], [1, 4, 6, 7], [0, 4, 5, 8], [1, 4, 5, 8], [0, 4, 6, 8], [1, 4, 6, 8]], [[0, 1], [2, 4], [3, 5, 6, 9], [7, 8]], [[2, 4], [2, 4], [3], [7], [5, 6, 9], [7, 8], [7, 8], [], [], []], [[5, 10], [2, 10], [2, 6, 10, 10], [6, 10]], [[0, 1, 0, 0, 0, 0, 0, 1, 1, 1, 1, 1], [4, 4, 2, 2, 4, 4, 4, 4, 4, 4, 4, 4], [5, 5, 3, 3, 5, 5, 5, 5, 6, 6, 6, 6], [7, 7, 7, 7, 7, 7, 7, 7, 8, 8, 8, 8]]⟩
theorem d30Ok : tailOk d30 = true := by decide +kernel
noncomputable def d31 : Dat := ⟨10, false, [[0, 2, 3, 7], [1, 2, 3, 7], [0, 4, 5, 7], [1, 4, 5, 7], [0, 4, 6, 7], [1, 4, 6, 7], [0, 4, 5, 8], [1, 4, 5, 8], [0, 4, 6, 8], [1, 4, 6, 8], [0, 4, 5, 9], [1, 4, 5, 9], [0, 4, 6, 9], [1, 4, 6, 9]], [[0, 1], [2, 4], [3, 5, 6], [7, 8, 9]], [[2, 4], [2, 4], [3], [7], [5, 6], [7, 8, 9], [7, 8, 9], [], [], []], [[7, 14], [2, 14], [2, 8, 14], [6, 10, 14]], [[0, 1, 0, 0, 0, 0, 0, 0, 0, 1, 1, 1, 1, 1, 1, 1], [4, 4, 2, 2, 4, 4, 4, 4, 4, 4, 4, 4, 4, 4, 4, 4], [5, 5, 3, 3, 5, 5, 5, 5, 5, 5, 6, 6, 6, 6, 6, 6], [8, 8, 7, 7, 7, 7, 7, 7, 8, 8, 8, 8, 9, 9, 9, 9]]⟩
theorem d31Ok : tailOk d31 = true := by decide +kernel
noncomputable def d32 : Dat := ⟨10, true, [[0, 4, 5, 6, 8, 9], [1, 4, 5, 6, 8, 9]], [[0, 1], [2, 4], [3, 5], [6], [7, 8], [9]], [[2, 4], [2, 4], [3], [], [5], [6], [7, 8], [], [9], []], [[1, 2], [0, 2], [0, 2], [2], [0, 2], [2]], [[0, 1, 0, 1], [4, 4, 4, 4], [5, 5, 5, 5], [6, 6, 6, 6], [8, 8, 8, 8], [9, 9, 9, 9]]⟩
theorem d32Ok : tailOk d32 = true := by decide +kernel
noncomputable def d33 : Dat := ⟨10, true, [[0, 4, 5, 6, 7, 9], [1, 4, 5, 6, 7, 9], [0, 4, 5, 6, 8, 9], [1, 4, 5, 6, 8, 9]], [[0, 1], [2, 4], [3, 5], [6], [7, 8], [9]], [[2, 4], [2, 4], [3], [], [5], [6], [7, 8], [9], [9], []], [[2, 4], [0, 4], [0, 4], [4], [2, 4], [4]], [[0, 1, 0, 0, 1, 1], [4, 4, 4, 4, 4, 4], [5, 5, 5, 5, 5, 5], [6, 6, 6, 6, 6, 6], [7, 8, 7, 7, 8, 8], [9, 9, 9, 9, 9, 9]]⟩
theorem d33Ok : tailOk d33 = true := by decide +kernel
noncomputable def d34 : Dat := ⟨10, false, [[0, 4, 5, 8, 9], [1, 4, 5, 8, 9], [0, 4, 6, 8, 9], [1, 4, 6, 8, 9]], [[0, 1], [2, 4], [3, 5, 6], [7, 8], [9]], [[2, 4], [2, 4], [3], [7], [5, 6], [7, 8], [7, 8], [], [9], []], [[2, 4], [0, 4], [0, 2, 4], [0, 4], [4]], [[0, 1, 0, 0, 1, 1], [4, 4, 4, 4, 4, 4], [5, 6, 5, 5, 6, 6], [8, 8, 8, 8, 8, 8], [9, 9, 9, 9, 9, 9]]⟩
theorem d34Ok : tailOk d34 = true := by decide +kernel
noncomputable def d35 : Dat := ⟨10, false, [[0, 2, 3, 7, 9], [1, 2, 3, 7, 9], [0, 4, 5, 7, 9], [1, 4, 5, 7, 9], [0, 4, 6, 7, 9], [1, 4, 6, 7, 9], [0, 4, 5, 8, 9], [1, 4, 5, 8, 9], [0, 4, 6, 8, 9], [1, 4, 6, 8, 9]], [[0, 1], [2, 4], [3, 5, 6], [7, 8], [9]], [[2, 4], [2, 4], [3], [7], [5, 6], [7, 8], [7, 8], [9], [9], []], [[5, 10], [2, 10], [2, 6, 10], [6, 10], [10]], [[0, 1, 0, 0, 0, 0, 0, 1, 1, 1, 1, 1], [4, 4, 2, 2, 4, 4, 4, 4, 4, 4, 4, 4], [5, 5, 3, 3, 5, 5, 5, 5, 6, 6, 6, 6], [7, 7, 7, 7, 7, 7, 7, 7, 8, 8, 8, 8], [9, 9, 9, 9, 9, 9, 9, 9, 9, 9, 9, 9]]⟩
theorem d35Ok : tailOk d35 = true := by decide +kernel
noncomputable def d36 : Dat := ⟨10, false, [[0, 1, 2, 3, 7]], [[0, 9], [1, 4], [2, 5, 6], [3, 8], [7]], [[1, 4], [2, 5, 6], [3, 8], [7], [5, 6], [8], [8], [], [], []], [[1, 1], [1, 1], [1, 1, 1], [1, 1], [1]], [[0, 0, 0], [1, 1, 1], [2, 2, 2], [3, 3, 3], [7, 7, 7]]⟩
theorem d36Ok : tailOk d36 = true := by decide +kernel
noncomputable def d37 : Dat := ⟨10, false, [[0, 1, 2, 3, 7]], [[0], [1, 4], [2, 5, 6, 9], [3, 8], [7]], [[1, 4], [2, 5, 6, 9], [3, 8], [7], [5, 6, 9], [8], [8], [], [], []], [[1], [1, 1], [1, 1, 1, 1], [1, 1], [1]], [[0, 0, 0], [1, 1, 1], [2, 2, 2], [3, 3, 3], [7, 7, 7]]⟩
theorem d37Ok : tailOk d37 = true := by decide +kernel
noncomputable def d38 : Dat := ⟨10, false, [[0, 1, 2, 3, 7]], [[0], [1, 4], [2, 5, 6], [3, 8, 9], [7]], [[1, 4], [2, 5, 6], [3, 8], [7], [5, 6], [8, 9], [8, 9], [], [], []], [[1], [1, 1], [1, 1, 1], [1, 1, 1], [1]], [[0, 0, 0], [1, 1, 1], [2, 2, 2], [3, 3, 3], [7, 7, 7]]⟩
theorem d38Ok : tailOk d38 = true := by decide +kernel
noncomputable def d39 : Dat := ⟨10, false, [[0, 1, 2, 3, 7]], [[0], [1, 4], [2, 5, 6], [3, 8, 9], [7]], [[1, 4], [2, 5, 6], [3, 8, 9], [7], [5, 6], [8, 9], [8, 9], [], [], []], [[1], [1, 1], [1, 1, 1], [1, 1, 1], [1]], [[0, 0, 0], [1, 1, 1], [2, 2, 2], [3, 3, 3], [7, 7, 7]]⟩
theorem d39Ok : tailOk d39 = true := by decide +kernel
noncomputable def d40 : Dat := ⟨10, false, [[0, 1, 2, 3, 7], [0, 1, 2, 3, 9], [0, 1, 2, 8, 9], [0, 1, 5, 8, 9], [0, 4, 5, 8, 9], [0, 1, 6, 8, 9], [0, 4, 6, 8, 9]], [[0], [1, 4], [2, 5, 6], [3, 8], [7, 9]], [[1, 4], [2, 5, 6], [3, 8], [7, 9], [5, 6], [8], [8], [], [9], []], [[7], [5, 7], [3, 5, 7], [2, 7], [1, 7]], [[0, 0, 0, 0, 0, 0, 0, 0, 0], [1, 1, 1, 1, 1, 1, 1, 4, 4], [5, 5, 2, 2, 2, 5, 5, 6, 6], [8, 8, 3, 3, 8, 8, 8, 8, 8], [9, 9, 7, 9, 9, 9, 9, 9, 9]]⟩
theorem d40Ok : tailOk d40 = true := by decide +kernel
noncomputable def d41 : Dat := ⟨10, false, [[0, 1, 2, 3, 7, 9]], [[0], [1, 4], [2, 5, 6], [3, 8], [7], [9]], [[1, 4], [2, 5, 6], [3, 8], [7], [5, 6], [8], [8], [9], [], []], [[1], [1, 1], [1, 1, 1], [1, 1], [1], [1]], [[0, 0, 0], [1, 1, 1], [2, 2, 2], [3, 3, 3], [7, 7, 7], [9, 9, 9]]⟩
theorem d41Ok : tailOk d41 = true := by decide +kernel
noncomputable def d42 : Dat := ⟨10, true, [[0, 1, 2, 3, 7], [0, 1, 5, 6, 7], [0, 4, 5, 6, 7], [0, 1, 2, 3, 8], [0, 1, 5, 6, 8], [0, 4, 5, 6, 8]], [[0, 9], [1, 4], [2, 5], [3, 6], [7, 8]], [[1, 4], [2, 5], [3], [7, 8], [5], [6], [7, 8], [], [], []], [[6, 6], [4, 6], [2, 6], [2, 6], [3, 6]], [[0, 0, 0, 0, 0, 0, 0, 0], [1, 1, 1, 1, 1, 1, 4, 4], [5, 5, 2, 2, 5, 5, 5, 5], [6, 6, 3, 3, 6, 6, 6, 6], [7, 8, 7, 7, 7, 8, 8, 8]]⟩
theorem d42Ok : tailOk d42 = true := by decide +kernel
noncomputable def d43 : Dat := ⟨10, false, [[0, 1, 2, 3, 7]], [[0, 9], [1, 4], [2, 5, 6], [3, 8], [7]], [[1, 4], [2], [3, 8], [7], [5, 6], [8], [8], [], [], []], [[1, 1], [1, 1], [1, 1, 1], [1, 1], [1]], [[0, 0, 0], [1, 1, 1], [2, 2, 2], [3, 3, 3], [7, 7, 7]]⟩
theorem d43Ok : tailOk d43 = true := by decide +kernel
noncomputable def d44 : Dat := ⟨10, true, [[0, 1, 2, 3, 7], [0, 1, 5, 6, 7], [0, 4, 5, 6, 7], [0, 1, 2, 3, 8], [0, 1, 5, 6, 8], [0, 4, 5, 6, 8]], [[0], [1, 4], [2, 5, 9], [3, 6], [7, 8]], [[1, 4], [2, 5], [3], [7, 8], [5, 9], [6], [7, 8], [], [], []], [[6], [4, 6], [2, 6, 6], [2, 6], [3, 6]], [[0, 0, 0, 0, 0, 0, 0, 0], [1, 1, 1, 1, 1, 1, 4, 4], [5, 5, 2, 2, 5, 5, 5, 5], [6, 6, 3, 3, 6, 6, 6, 6], [7, 8, 7, 7, 7, 8, 8, 8]]⟩
theorem d44Ok : tailOk d44 = true := by decide +kernel
noncomputable def d45 : Dat := ⟨10, true, [[0, 1, 2, 3, 7], [0, 1, 5, 6, 7], [0, 4, 5, 6, 7], [0, 1, 2, 3, 8], [0, 1, 5, 6, 8], [0, 4, 5, 6, 8], [0, 1, 5, 6, 9], [0, 4, 5, 6, 9]], [[0], [1, 4], [2, 5], [3, 6], [7, 8, 9]], [[1, 4], [2, 5], [3], [7, 8], [5], [6], [7, 8, 9], [], [], []], [[8], [5, 8], [2, 8], [2, 8], [3, 6, 8]], [[0, 0, 0, 0, 0, 0, 0, 0, 0, 0], [1, 1, 1, 1, 1, 1, 1, 4, 4, 4], [5, 5, 2, 2, 5, 5, 5, 5, 5, 5], [6, 6, 3, 3, 6, 6, 6, 6, 6, 6], [8, 8, 7, 7, 7, 8, 8, 8, 9, 9]]⟩
theorem d45Ok : tailOk d45 = true := by decide +kernel
noncomputable def d46 : Dat := ⟨10, false, [[0, 1, 2, 3, 7]], [[0], [1, 4], [2, 5, 6, 9], [3, 8], [7]], [[1, 4], [2], [3, 8], [7], [5, 6, 9], [8], [8], [], [], []], [[1], [1, 1], [1, 1, 1, 1], [1, 1], [1]], [[0, 0, 0], [1, 1, 1], [2, 2, 2], [3, 3, 3], [7, 7, 7]]⟩
theorem d46Ok : tailOk d46 = true := by decide +kernel
noncomputable def d47 : Dat := ⟨10, false, [[0, 1, 2, 3, 7]], [[0], [1, 4], [2, 5, 6], [3, 8, 9], [7]], [[1, 4], [2], [3, 8], [7], [5, 6], [8, 9], [8, 9], [], [], []], [[1], [1, 1], [1, 1, 1], [1, 1, 1], [1]], [[0, 0, 0], [1, 1, 1], [2, 2, 2], [3, 3, 3], [7, 7, 7]]⟩
theorem d47Ok : tailOk d47 = true := by decide +kernel
noncomputable def d48 : Dat := ⟨10, true, [[0, 1, 2, 3, 8, 9], [0, 1, 5, 6, 8, 9], [0, 4, 5, 6, 8, 9]], [[0], [1, 4], [2, 5], [3, 6], [7, 8], [9]], [[1, 4], [2, 5], [3], [7, 8], [5], [6], [7, 8], [], [9], []], [[3], [2, 3], [1, 3], [1, 3], [0, 3], [3]], [[0, 0, 0, 0, 0], [1, 1, 1, 1, 4], [5, 5, 2, 5, 5], [6, 6, 3, 6, 6], [8, 8, 8, 8, 8], [9, 9, 9, 9, 9]]⟩
theorem d48Ok : tailOk d48 = true := by decide +kernel
noncomputable def d49 : Dat := ⟨10, false, [[0, 1, 2, 3, 7]], [[0], [1, 4], [2, 5, 6], [3, 8, 9], [7]], [[1, 4], [2], [3, 8, 9], [7], [5, 6], [8, 9], [8, 9], [], [], []], [[1], [1, 1], [1, 1, 1], [1, 1, 1], [1]], [[0, 0, 0], [1, 1, 1], [2, 2, 2], [3, 3, 3], [7, 7, 7]]⟩
theorem d49Ok : tailOk d49 = true := by decide +kernel
noncomputable def d50 : Dat := ⟨10, true, [[0, 1, 2, 3, 7, 9], [0, 1, 5, 6, 7, 9], [0, 4, 5, 6, 7, 9], [0, 1, 2, 3, 8, 9], [0, 1, 5, 6, 8, 9], [0, 4, 5, 6, 8, 9]], [[0], [1, 4], [2, 5], [3, 6], [7, 8], [9]], [[1, 4], [2, 5], [3], [7, 8], [5], [6], [7, 8], [9], [9], []], [[6], [4, 6], [2, 6], [2, 6], [3, 6], [6]], [[0, 0, 0, 0, 0, 0, 0, 0], [1, 1, 1, 1, 1, 1, 4, 4], [5, 5, 2, 2, 5, 5, 5, 5], [6, 6, 3, 3, 6, 6, 6, 6], [7, 8, 7, 7, 7, 8, 8, 8], [9, 9, 9, 9, 9, 9, 9, 9]]⟩
theorem d50Ok : tailOk d50 = true := by decide +kernel
noncomputable def d51 : Dat := ⟨10, false, [[0, 1, 2, 3, 7], [0, 1, 2, 3, 9], [0, 1, 2, 8, 9], [0, 4, 5, 8, 9], [0, 4, 6, 8, 9]], [[0], [1, 4], [2, 5, 6], [3, 8], [7, 9]], [[1, 4], [2], [3, 8], [7, 9], [5, 6], [8], [8], [], [9], []], [[5], [3, 5], [3, 4, 5], [2, 5], [1, 5]], [[0, 0, 0, 0, 0, 0, 0], [1, 1, 1, 1, 1, 4, 4], [2, 2, 2, 2, 2, 5, 6], [8, 8, 3, 3, 8, 8, 8], [9, 9, 7, 9, 9, 9, 9]]⟩
theorem d51Ok : tailOk d51 = true := by decide +kernel
noncomputable def d52 : Dat := ⟨10, false, [[0, 1, 2, 3, 7, 9]], [[0], [1, 4], [2, 5, 6], [3, 8], [7], [9]], [[1, 4], [2], [3, 8], [7], [5, 6], [8], [8], [9], [], []], [[1], [1, 1], [1, 1, 1], [1, 1], [1], [1]], [[0, 0, 0], [1, 1, 1], [2, 2, 2], [3, 3, 3], [7, 7, 7], [9, 9, 9]]⟩
theorem d52Ok : tailOk d52 = true := by decide +kernel
noncomputable def d53 : Dat := ⟨10, true, [[0, 1, 2, 3, 7], [0, 4, 5, 6, 7], [0, 1, 2, 3, 8], [0, 4, 5, 6, 8]], [[0, 9], [1, 4], [2, 5], [3, 6], [7, 8]], [[1, 4], [2], [3], [7, 8], [5], [6], [7, 8], [], [], []], [[4, 4], [2, 4], [2, 4], [2, 4], [2, 4]], [[0, 0, 0, 0, 0, 0], [1, 4, 1, 1, 4, 4], [2, 5, 2, 2, 5, 5], [3, 6, 3, 3, 6, 6], [7, 8, 7, 7, 8, 8]]⟩
theorem d53Ok : tailOk d53 = true := by decide +kernel
noncomputable def d54 : Dat := ⟨10, false, [[0, 1, 3, 7], [0, 2, 3, 7], [0, 4, 5, 7], [0, 4, 6, 7], [0, 4, 5, 8], [0, 4, 6, 8]], [[0, 9], [1, 2, 4], [3, 5, 6], [7, 8]], [[1, 2, 4], [3], [3], [7], [5, 6], [7, 8], [7, 8], [], [], []], [[6, 6], [1, 2, 6], [2, 4, 6], [4, 6]], [[0, 0, 0, 0, 0, 0, 0, 0], [4, 4, 1, 2, 4, 4, 4, 4], [5, 5, 3, 3, 5, 5, 6, 6], [7, 7, 7, 7, 7, 7, 8, 8]]⟩
theorem d54Ok : tailOk d54 = true := by decide +kernel
noncomputable def d55 : Dat := ⟨10, true, [[0, 1, 2, 3, 7], [0, 4, 5, 6, 7], [0, 1, 2, 3, 8], [0, 4, 5, 6, 8]], [[0], [1, 4], [2, 5, 9], [3, 6], [7, 8]], [[1, 4], [2], [3], [7, 8], [5, 9], [6], [7, 8], [], [], []], [[4], [2, 4], [2, 4, 4], [2, 4], [2, 4]], [[0, 0, 0, 0, 0, 0], [1, 4, 1, 1, 4, 4], [2, 5, 2, 2, 5, 5], [3, 6, 3, 3, 6, 6], [7, 8, 7, 7, 8, 8]]⟩
theorem d55Ok : tailOk d55 = true := by decide +kernel
noncomputable def d56 : Dat := ⟨10, true, [[0, 1, 2, 3, 7], [0, 4, 5, 6, 7], [0, 1, 2, 3, 8], [0, 4, 5, 6, 8], [0, 4, 5, 6, 9]], [[0], [1, 4], [2, 5], [3, 6], [7, 8, 9]], [[1, 4], [2], [3], [7, 8], [5], [6], [7, 8, 9], [], [], []], [[5], [2, 5], [2, 5], [2, 5], [2, 4, 5]], [[0, 0, 0, 0, 0, 0, 0], [4, 4, 1, 1, 4, 4, 4], [5, 5, 2, 2, 5, 5, 5], [6, 6, 3, 3, 6, 6, 6], [8, 8, 7, 7, 8, 8, 9]]⟩
theorem d56Ok : tailOk d56 = true := by decide +kernel
noncomputable def d57 : Dat := ⟨10, false, [[0, 1, 3, 7], [0, 2, 3, 7], [0, 4, 5, 7], [0, 4, 6, 7], [0, 4, 5, 8], [0, 4, 6, 8]], [[0], [1, 2, 4], [3, 5, 6, 9], [7, 8]], [[1, 2, 4], [3], [3], [7], [5, 6, 9], [7, 8], [7, 8], [], [], []], [[6], [1, 2, 6], [2, 4, 6, 6], [4, 6]], [[0, 0, 0, 0, 0, 0, 0, 0], [4, 4, 1, 2, 4, 4, 4, 4], [5, 5, 3, 3, 5, 5, 6, 6], [7, 7, 7, 7, 7, 7, 8, 8]]⟩
theorem d57Ok : tailOk d57 = true := by decide +kernel
noncomputable def d58 : Dat := ⟨10, false, [[0, 1, 3, 7], [0, 2, 3, 7], [0, 4, 5, 7], [0, 4, 6, 7], [0, 4, 5, 8], [0, 4, 6, 8], [0, 4, 5, 9], [0, 4, 6, 9]], [[0], [1, 2, 4], [3, 5, 6], [7, 8, 9]], [[1, 2, 4], [3], [3], [7], [5, 6], [7, 8, 9], [7, 8, 9], [], [], []], [[8], [1, 2, 8], [2, 5, 8], [4, 6, 8]], [[0, 0, 0, 0, 0, 0, 0, 0, 0, 0], [4, 4, 1, 2, 4, 4, 4, 4, 4, 4], [5, 5, 3, 3, 5, 5, 5, 6, 6, 6], [7, 8, 7, 7, 7, 7, 8, 8, 9, 9]]⟩
theorem d58Ok : tailOk d58 = true := by decide +kernel
noncomputable def d59 : Dat := ⟨10, true, [[0, 1, 2, 3, 8, 9], [0, 4, 5, 6, 8, 9]], [[0], [1, 4], [2, 5], [3, 6], [7, 8], [9]], [[1, 4], [2], [3], [7, 8], [5], [6], [7, 8], [], [9], []], [[2], [1, 2], [1, 2], [1, 2], [0, 2], [2]], [[0, 0, 0, 0], [1, 4, 1, 4], [2, 5, 2, 5], [3, 6, 3, 6], [8, 8, 8, 8], [9, 9, 9, 9]]⟩
theorem d59Ok : tailOk d59 = true := by decide +kernel
noncomputable def d60 : Dat := ⟨10, true, [[0, 1, 2, 3, 7, 9], [0, 4, 5, 6, 7, 9], [0, 1, 2, 3, 8, 9], [0, 4, 5, 6, 8, 9]], [[0], [1, 4], [2, 5], [3, 6], [7, 8], [9]], [[1, 4], [2], [3], [7, 8], [5], [6], [7, 8], [9], [9], []], [[4], [2, 4], [2, 4], [2, 4], [2, 4], [4]], [[0, 0, 0, 0, 0, 0], [1, 4, 1, 1, 4, 4], [2, 5, 2, 2, 5, 5], [3, 6, 3, 3, 6, 6], [7, 8, 7, 7, 8, 8], [9, 9, 9, 9, 9, 9]]⟩
theorem d60Ok : tailOk d60 = true := by decide +kernel
noncomputable def d61 : Dat := ⟨10, false, [[0, 4, 5, 8, 9], [0, 4, 6, 8, 9]], [[0], [1, 2, 4], [3, 5, 6], [7, 8], [9]], [[1, 2, 4], [3], [3], [7], [5, 6], [7, 8], [7, 8], [], [9], []], [[2], [0, 0, 2], [0, 1, 2], [0, 2], [2]], [[0, 0, 0, 0], [4, 4, 4, 4], [5, 6, 5, 6], [8, 8, 8, 8], [9, 9, 9, 9]]⟩
theorem d61Ok : tailOk d61 = true := by decide +kernel
noncomputable def d62 : Dat := ⟨10, false, [[0, 1, 3, 7, 9], [0, 2, 3, 7, 9], [0, 4, 5, 7, 9], [0, 4, 6, 7, 9], [0, 4, 5, 8, 9], [0, 4, 6, 8, 9]], [[0], [1, 2, 4], [3, 5, 6], [7, 8], [9]], [[1, 2, 4], [3], [3], [7], [5, 6], [7, 8], [7, 8], [9], [9], []], [[6], [1, 2, 6], [2, 4, 6], [4, 6], [6]], [[0, 0, 0, 0, 0, 0, 0, 0], [4, 4, 1, 2, 4, 4, 4, 4], [5, 5, 3, 3, 5, 5, 6, 6], [7, 7, 7, 7, 7, 7, 8, 8], [9, 9, 9, 9, 9, 9, 9, 9]]⟩
theorem d62Ok : tailOk d62 = true := by decide +kernel
noncomputable def d63 : Dat := ⟨10, true, [[0, 4, 5, 6, 7], [0, 4, 5, 6, 8]], [[0, 9], [1, 2, 4], [3, 5], [6], [7, 8]], [[1, 2, 4], [3], [3], [], [5], [6], [7, 8], [], [], []], [[2, 2], [0, 0, 2], [0, 2], [2], [1, 2]], [[0, 0, 0, 0], [4, 4, 4, 4], [5, 5, 5, 5], [6, 6, 6, 6], [7, 8, 7, 8]]⟩
theorem d63Ok : tailOk d63 = true := by decide +kernel
noncomputable def d64 : Dat := ⟨10, false, [[0, 2, 3, 7], [0, 4, 5, 7], [0, 4, 6, 7], [0, 4, 5, 8], [0, 4, 6, 8]], [[0, 9], [1, 2, 4], [3, 5, 6], [7, 8]], [[1, 2, 4], [], [3], [7], [5, 6], [7, 8], [7, 8], [], [], []], [[5, 5], [0, 1, 5], [1, 3, 5], [3, 5]], [[0, 0, 0, 0, 0, 0, 0], [4, 4, 2, 4, 4, 4, 4], [5, 5, 3, 5, 5, 6, 6], [7, 7, 7, 7, 7, 8, 8]]⟩
theorem d64Ok : tailOk d64 = true := by decide +kernel
noncomputable def d65 : Dat := ⟨10, true, [[0, 4, 5, 6, 7], [0, 4, 5, 6, 8]], [[0], [1, 2, 4], [3, 5, 9], [6], [7, 8]], [[1, 2, 4], [3], [3], [], [5, 9], [6], [7, 8], [], [], []], [[2], [0, 0, 2], [0, 2, 2], [2], [1, 2]], [[0, 0, 0, 0], [4, 4, 4, 4], [5, 5, 5, 5], [6, 6, 6, 6], [7, 8, 7, 8]]⟩
theorem d65Ok : tailOk d65 = true := by decide +kernel
noncomputable def d66 : Dat := ⟨10, true, [[0, 4, 5, 6, 7], [0, 4, 5, 6, 8], [0, 4, 5, 6, 9]], [[0], [1, 2, 4], [3, 5], [6], [7, 8, 9]], [[1, 2, 4], [3], [3], [], [5], [6], [7, 8, 9], [], [], []], [[3], [0, 0, 3], [0, 3], [3], [1, 2, 3]], [[0, 0, 0, 0, 0], [4, 4, 4, 4, 4], [5, 5, 5, 5, 5], [6, 6, 6, 6, 6], [8, 8, 7, 8, 9]]⟩
theorem d66Ok : tailOk d66 = true := by decide +kernel
noncomputable def d67 : Dat := ⟨10, false, [[0, 2, 3, 7], [0, 4, 5, 7], [0, 4, 6, 7], [0, 4, 5, 8], [0, 4, 6, 8]], [[0], [1, 2, 4], [3, 5, 6, 9], [7, 8]], [[1, 2, 4], [], [3], [7], [5, 6, 9], [7, 8], [7, 8], [], [], []], [[5], [0, 1, 5], [1, 3, 5, 5], [3, 5]], [[0, 0, 0, 0, 0, 0, 0], [4, 4, 2, 4, 4, 4, 4], [5, 5, 3, 5, 5, 6, 6], [7, 7, 7, 7, 7, 8, 8]]⟩
theorem d67Ok : tailOk d67 = true := by decide +kernel
noncomputable def d68 : Dat := ⟨10, false, [[0, 2, 3, 7], [0, 4, 5, 7], [0, 4, 6, 7], [0, 4, 5, 8], [0, 4, 6, 8], [0, 4, 5, 9], [0, 4, 6, 9]], [[0], [1, 2, 4], [3, 5, 6], [7, 8, 9]], [[1, 2, 4], [], [3], [7], [5, 6], [7, 8, 9], [7, 8, 9], [], [], []], [[7], [0, 1, 7], [1, 4, 7], [3, 5, 7]], [[0, 0, 0, 0, 0, 0, 0, 0, 0], [4, 4, 2, 4, 4, 4, 4, 4, 4], [5, 5, 3, 5, 5, 5, 6, 6, 6], [8, 8, 7, 7, 7, 8, 8, 9, 9]]⟩
theorem d68Ok : tailOk d68 = true := by decide +kernel
noncomputable def d69 : Dat := ⟨10, true, [[0, 4, 5, 6, 8, 9]], [[0], [1, 2, 4], [3, 5], [6], [7, 8], [9]], [[1, 2, 4], [3], [3], [], [5], [6], [7, 8], [], [9], []], [[1], [0, 0, 1], [0, 1], [1], [0, 1], [1]], [[0, 0, 0], [4, 4, 4], [5, 5, 5], [6, 6, 6], [8, 8, 8], [9, 9, 9]]⟩
theorem d69Ok : tailOk d69 = true := by decide +kernel
noncomputable def d70 : Dat := ⟨10, true, [[0, 4, 5, 6, 7, 9], [0, 4, 5, 6, 8, 9]], [[0], [1, 2, 4], [3, 5], [6], [7, 8], [9]], [[1, 2, 4], [3], [3], [], [5], [6], [7, 8], [9], [9], []], [[2], [0, 0, 2], [0, 2], [2], [1, 2], [2]], [[0, 0, 0, 0], [4, 4, 4, 4], [5, 5, 5, 5], [6, 6, 6, 6], [7, 8, 7, 8], [9, 9, 9, 9]]⟩
theorem d70Ok : tailOk d70 = true := by decide +kernel
noncomputable def d71 : Dat := ⟨10, false, [[0, 4, 5, 8, 9], [0, 4, 6, 8, 9]], [[0], [1, 2, 4], [3, 5, 6], [7, 8], [9]], [[1, 2, 4], [], [3], [7], [5, 6], [7, 8], [7, 8], [], [9], []], [[2], [0, 0, 2], [0, 1, 2], [0, 2], [2]], [[0, 0, 0, 0], [4, 4, 4, 4], [5, 6, 5, 6], [8, 8, 8, 8], [9, 9, 9, 9]]⟩
theorem d71Ok : tailOk d71 = true := by decide +kernel
noncomputable def d72 : Dat := ⟨10, false, [[0, 2, 3, 7, 9], [0, 4, 5, 7, 9], [0, 4, 6, 7, 9], [0, 4, 5, 8, 9], [0, 4, 6, 8, 9]], [[0], [1, 2, 4], [3, 5, 6], [7, 8], [9]], [[1, 2, 4], [], [3], [7], [5, 6], [7, 8], [7, 8], [9], [9], []], [[5], [0, 1, 5], [1, 3, 5], [3, 5], [5]], [[0, 0, 0, 0, 0, 0, 0], [4, 4, 2, 4, 4, 4, 4], [5, 5, 3, 5, 5, 6, 6], [7, 7, 7, 7, 7, 8, 8], [9, 9, 9, 9, 9, 9, 9]]⟩
theorem d72Ok : tailOk d72 = true := by decide +kernel
noncomputable def d73 : Dat := ⟨10, true, [[0, 4, 5, 6, 7], [0, 4, 5, 6, 8]], [[0, 9], [1, 2, 4], [3, 5], [6], [7, 8]], [[1, 2, 4], [], [3], [], [5], [6], [7, 8], [], [], []], [[2, 2], [0, 0, 2], [0, 2], [2], [1, 2]], [[0, 0, 0, 0], [4, 4, 4, 4], [5, 5, 5, 5], [6, 6, 6, 6], [7, 8, 7, 8]]⟩
theorem d73Ok : tailOk d73 = true := by decide +kernel
noncomputable def d74 : Dat := ⟨10, true, [[0, 4, 5, 6, 7], [0, 4, 5, 6, 8]], [[0], [1, 2, 4], [3, 5, 9], [6], [7, 8]], [[1, 2, 4], [], [3], [], [5, 9], [6], [7, 8], [], [], []], [[2], [0, 0, 2], [0, 2, 2], [2], [1, 2]], [[0, 0, 0, 0], [4, 4, 4, 4], [5, 5, 5, 5], [6, 6, 6, 6], [7, 8, 7, 8]]⟩
theorem d74Ok : tailOk d74 = true := by decide +kernel
noncomputable def d75 : Dat := ⟨10, true, [[0, 4, 5, 6, 7], [0, 4, 5, 6, 8], [0, 4, 5, 6, 9]], [[0], [1, 2, 4], [3, 5], [6], [7, 8, 9]], [[1, 2, 4], [], [3], [], [5], [6], [7, 8, 9], [], [], []], [[3], [0, 0, 3], [0, 3], [3], [1, 2, 3]], [[0, 0, 0, 0, 0], [4, 4, 4, 4, 4], [5, 5, 5, 5, 5], [6, 6, 6, 6, 6], [8, 8, 7, 8, 9]]⟩
theorem d75Ok : tailOk d75 = true := by decide +kernel
noncomputable def d76 : Dat := ⟨10, true, [[0, 4, 5, 6, 8, 9]], [[0], [1, 2, 4], [3, 5], [6], [7, 8], [9]], [[1, 2, 4], [], [3], [], [5], [6], [7, 8], [], [9], []], [[1], [0, 0, 1], [0, 1], [1], [0, 1], [1]], [[0, 0, 0], [4, 4, 4], [5, 5, 5], [6, 6, 6], [8, 8, 8], [9, 9, 9]]⟩
theorem d76Ok : tailOk d76 = true := by decide +kernel
noncomputable def d77 : Dat := ⟨10, true, [[0, 4, 5, 6, 7, 9], [0, 4, 5, 6, 8, 9]], [[0], [1, 2, 4], [3, 5], [6], [7, 8], [9]], [[1, 2, 4], [], [3], [], [5], [6], [7, 8], [9], [9], []], [[2], [0, 0, 2], [0, 2], [2], [1, 2], [2]], [[0, 0, 0, 0], [4, 4, 4, 4], [5, 5, 5, 5], [6, 6, 6, 6], [7, 8, 7, 8], [9, 9, 9, 9]]⟩
theorem d77Ok : tailOk d77 = true := by decide +kernel
noncomputable def d78 : Dat := ⟨10, false, [[0, 2, 3, 7], [1, 2, 3, 7], [1, 4, 5, 7], [1, 4, 6, 7], [1, 4, 5, 8], [1, 4, 6, 8]], [[0, 1], [2, 4, 9], [3, 5, 6], [7, 8]], [[2], [2, 4, 9], [3], [7], [5, 6], [7, 8], [7, 8], [], [], []], [[1, 6], [2, 6, 6], [2, 4, 6], [4, 6]], [[1, 1, 0, 1, 1, 1, 1, 1], [4, 4, 2, 2, 4, 4, 4, 4], [5, 5, 3, 3, 5, 5, 6, 6], [7, 7, 7, 7, 7, 7, 8, 8]]⟩
theorem d78Ok : tailOk d78 = true := by decide +kernel
noncomputable def d79 : Dat := ⟨10, false, [[0, 2, 3, 7], [1, 2, 3, 7], [1, 4, 5, 7], [1, 4, 6, 7], [1, 4, 5, 8], [1, 4, 6, 8]], [[0, 1, 9], [2, 4], [3, 5, 6], [7, 8]], [[2], [2, 4], [3], [7], [5, 6], [7, 8], [7, 8], [], [], []], [[1, 6, 6], [2, 6], [2, 4, 6], [4, 6]], [[1, 1, 0, 1, 1, 1, 1, 1], [4, 4, 2, 2, 4, 4, 4, 4], [5, 5, 3, 3, 5, 5, 6, 6], [7, 7, 7, 7, 7, 7, 8, 8]]⟩
theorem d79Ok : tailOk d79 = true := by decide +kernel
noncomputable def d80 : Dat := ⟨10, false, [[0, 2, 3, 7], [1, 2, 3, 7], [1, 4, 5, 7], [1, 4, 6, 7], [1, 4, 5, 8], [1, 4, 6, 8]], [[0, 1], [2, 4], [3, 5, 6, 9], [7, 8]], [[2], [2, 4], [3], [7], [5, 6, 9], [7, 8], [7, 8], [], [], []], [[1, 6], [2, 6], [2, 4, 6, 6], [4, 6]], [[1, 1, 0, 1, 1, 1, 1, 1], [4, 4, 2, 2, 4, 4, 4, 4], [5, 5, 3, 3, 5, 5, 6, 6], [7, 7, 7, 7, 7, 7, 8, 8]]⟩
theorem d80Ok : tailOk d80 = true := by decide +kernel
noncomputable def d81 : Dat := ⟨10, false, [[0, 2, 3, 7], [1, 2, 3, 7], [1, 4, 5, 7], [1, 4, 6, 7], [1, 4, 5, 8], [1, 4, 6, 8], [1, 4, 5, 9], [1, 4, 6, 9]], [[0, 1], [2, 4], [3, 5, 6], [7, 8, 9]], [[2], [2, 4], [3], [7], [5, 6], [7, 8, 9], [7, 8, 9], [], [], []], [[1, 8], [2, 8], [2, 5, 8], [4, 6, 8]], [[1, 1, 0, 1, 1, 1, 1, 1, 1, 1], [4, 4, 2, 2, 4, 4, 4, 4, 4, 4], [5, 5, 3, 3, 5, 5, 5, 6, 6, 6], [7, 8, 7, 7, 7, 7, 8, 8, 9, 9]]⟩
theorem d81Ok : tailOk d81 = true := by decide +kernel
noncomputable def d82 : Dat := ⟨10, false, [[1, 4, 5, 8, 9], [1, 4, 6, 8, 9]], [[0, 1], [2, 4], [3, 5, 6], [7, 8], [9]], [[2], [2, 4], [3], [7], [5, 6], [7, 8], [7, 8], [], [9], []], [[0, 2], [0, 2], [0, 1, 2], [0, 2], [2]], [[1, 1, 1, 1], [4, 4, 4, 4], [5, 6, 5, 6], [8, 8, 8, 8], [9, 9, 9, 9]]⟩
theorem d82Ok : tailOk d82 = true := by decide +kernel
noncomputable def d83 : Dat := ⟨10, false, [[0, 2, 3, 7, 9], [1, 2, 3, 7, 9], [1, 4, 5, 7, 9], [1, 4, 6, 7, 9], [1, 4, 5, 8, 9], [1, 4, 6, 8, 9]], [[0, 1], [2, 4], [3, 5, 6], [7, 8], [9]], [[2], [2, 4], [3], [7], [5, 6], [7, 8], [7, 8], [9], [9], []], [[1, 6], [2, 6], [2, 4, 6], [4, 6], [6]], [[1, 1, 0, 1, 1, 1, 1, 1], [4, 4, 2, 2, 4, 4, 4, 4], [5, 5, 3, 3, 5, 5, 6, 6], [7, 7, 7, 7, 7, 7, 8, 8], [9, 9, 9, 9, 9, 9, 9, 9]]⟩
theorem d83Ok : tailOk d83 = true := by decide +kernel
noncomputable def d84 : Dat := ⟨10, false, [[0, 2, 3, 7], [1, 2, 3, 7]], [[0, 1, 4, 9], [2, 5, 6], [3, 8], [7]], [[2, 5, 6], [2, 5, 6], [3, 8], [7], [5, 6], [8], [8], [], [], []], [[1, 2, 2, 2], [2, 2, 2], [2, 2], [2]], [[0, 1, 0, 1], [2, 2, 2, 2], [3, 3, 3, 3], [7, 7, 7, 7]]⟩
theorem d84Ok : tailOk d84 = true := by decide +kernel
noncomputable def d85 : Dat := ⟨10, false, [[0, 2, 3, 7], [1, 2, 3, 7]], [[0, 1, 4], [2, 5, 6, 9], [3, 8], [7]], [[2, 5, 6, 9], [2, 5, 6, 9], [3, 8], [7], [5, 6, 9], [8], [8], [], [], []], [[1, 2, 2], [2, 2, 2, 2], [2, 2], [2]], [[0, 1, 0, 1], [2, 2, 2, 2], [3, 3, 3, 3], [7, 7, 7, 7]]⟩
theorem d85Ok : tailOk d85 = true := by decide +kernel
noncomputable def d86 : Dat := ⟨10, false, [[0, 2, 3, 7], [1, 2, 3, 7]], [[0, 1, 4], [2, 5, 6], [3, 8, 9], [7]], [[2, 5, 6], [2, 5, 6], [3, 8], [7], [5, 6], [8, 9], [8, 9], [], [], []], [[1, 2, 2], [2, 2, 2], [2, 2, 2], [2]], [[0, 1, 0, 1], [2, 2, 2, 2], [3, 3, 3, 3], [7, 7, 7, 7]]⟩
theorem d86Ok : tailOk d86 = true := by decide +kernel
noncomputable def d87 : Dat := ⟨10, false, [[0, 2, 3, 7], [1, 2, 3, 7]], [[0, 1, 4], [2, 5, 6], [3, 8, 9], [7]], [[2, 5, 6], [2, 5, 6], [3, 8, 9], [7], [5, 6], [8, 9], [8, 9], [], [], []], [[1, 2, 2], [2, 2, 2], [2, 2, 2], [2]], [[0, 1, 0, 1], [2, 2, 2, 2], [3, 3, 3, 3], [7, 7, 7, 7]]⟩
theorem d87Ok : tailOk d87 = true := by decide +kernel
noncomputable def d88 : Dat := ⟨10, false, [[0, 2, 3, 7], [1, 2, 3, 7], [0, 2, 3, 9], [1, 2, 3, 9], [0, 2, 8, 9], [1, 2, 8, 9], [0, 5, 8, 9], [1, 5, 8, 9], [4, 5, 8, 9], [0, 6, 8, 9], [1, 6, 8, 9], [4, 6, 8, 9]], [[0, 1, 4], [2, 5, 6], [3, 8], [7, 9]], [[2, 5, 6], [2, 5, 6], [3, 8], [7, 9], [5, 6], [8], [8], [], [9], []], [[5, 10, 12], [6, 9, 12], [4, 12], [2, 12]], [[1, 1, 0, 0, 0, 0, 0, 1, 1, 1, 1, 1, 4, 4], [2, 5, 2, 2, 2, 2, 2, 2, 5, 5, 5, 6, 6, 6], [8, 8, 3, 3, 3, 3, 8, 8, 8, 8, 8, 8, 8, 8], [9, 9, 7, 7, 9, 9, 9, 9, 9, 9, 9, 9, 9, 9]]⟩
theorem d88Ok : tailOk d88 = true := by decide +kernel
noncomputable def d89 : Dat := ⟨10, false, [[0, 2, 3, 7, 9], [1, 2, 3, 7, 9]], [[0, 1, 4], [2, 5, 6], [3, 8], [7], [9]], [[2, 5, 6], [2, 5, 6], [3, 8], [7], [5, 6], [8], [8], [9], [], []], [[1, 2, 2], [2, 2, 2], [2, 2], [2], [2]], [[0, 1, 0, 1], [2, 2, 2, 2], [3, 3, 3, 3], [7, 7, 7, 7], [9, 9, 9, 9]]⟩
theorem d89Ok : tailOk d89 = true := by decide +kernel
noncomputable def d90 : Dat := ⟨10, false, [[0, 1, 2, 3, 7]], [[0, 4, 9], [1, 5, 6], [2], [3, 8], [7]], [[1, 5, 6], [2], [3, 8], [7], [5, 6], [], [], [], [], []], [[1, 1, 1], [1, 1, 1], [1], [1, 1], [1]], [[0, 0, 0], [1, 1, 1], [2, 2, 2], [3, 3, 3], [7, 7, 7]]⟩
theorem d90Ok : tailOk d90 = true := by decide +kernel
noncomputable def d91 : Dat := ⟨10, false, [[0, 1, 2, 3, 7]], [[0, 4], [1, 5, 6, 9], [2], [3, 8], [7]], [[1, 5, 6, 9], [2], [3, 8], [7], [5, 6, 9], [], [], [], [], []], [[1, 1], [1, 1, 1, 1], [1], [1, 1], [1]], [[0, 0, 0], [1, 1, 1], [2, 2, 2], [3, 3, 3], [7, 7, 7]]⟩
theorem d91Ok : tailOk d91 = true := by decide +kernel
noncomputable def d92 : Dat := ⟨10, false, [[0, 1, 2, 3, 7]], [[0, 4], [1, 5, 6], [2, 9], [3, 8], [7]], [[1, 5, 6], [2, 9], [3, 8], [7], [5, 6], [9], [9], [], [], []], [[1, 1], [1, 1, 1], [1, 1], [1, 1], [1]], [[0, 0, 0], [1, 1, 1], [2, 2, 2], [3, 3, 3], [7, 7, 7]]⟩
theorem d92Ok : tailOk d92 = true := by decide +kernel
noncomputable def d93 : Dat := ⟨10, false, [[0, 1, 2, 3, 7]], [[0, 4], [1, 5, 6], [2], [3, 8, 9], [7]], [[1, 5, 6], [2], [3, 8, 9], [7], [5, 6], [], [], [], [], []], [[1, 1], [1, 1, 1], [1], [1, 1, 1], [1]], [[0, 0, 0], [1, 1, 1], [2, 2, 2], [3, 3, 3], [7, 7, 7]]⟩
theorem d93Ok : tailOk d93 = true := by decide +kernel
noncomputable def d94 : Dat := ⟨10, false, [[0, 1, 2, 3, 7], [0, 1, 2, 3, 9], [0, 1, 2, 8, 9]], [[0, 4], [1, 5, 6], [2], [3, 8], [7, 9]], [[1, 5, 6], [2], [3, 8], [7, 9], [5, 6], [], [], [], [9], []], [[3, 3], [3, 3, 3], [3], [2, 3], [1, 3]], [[0, 0, 0, 0, 0], [1, 1, 1, 1, 1], [2, 2, 2, 2, 2], [3, 3, 3, 3, 8], [9, 9, 7, 9, 9]]⟩
theorem d94Ok : tailOk d94 = true := by decide +kernel
noncomputable def d95 : Dat := ⟨10, false, [[0, 1, 2, 3, 7, 9]], [[0, 4], [1, 5, 6], [2], [3, 8], [7], [9]], [[1, 5, 6], [2], [3, 8], [7], [5, 6], [], [], [9], [], []], [[1, 1], [1, 1, 1], [1], [1, 1], [1], [1]], [[0, 0, 0], [1, 1, 1], [2, 2, 2], [3, 3, 3], [7, 7, 7], [9, 9, 9]]⟩
theorem d95Ok : tailOk d95 = true := by decide +kernel
noncomputable def d96 : Dat := ⟨10, false, [[0, 1, 3, 7], [0, 2, 3, 7]], [[0, 4, 9], [1, 2, 5, 6], [3, 8], [7]], [[1, 2, 5, 6], [3, 8], [3, 8], [7], [5, 6], [8], [8], [], [], []], [[2, 2, 2], [1, 2, 2, 2], [2, 2], [2]], [[0, 0, 0, 0], [1, 2, 1, 2], [3, 3, 3, 3], [7, 7, 7, 7]]⟩
theorem d96Ok : tailOk d96 = true := by decide +kernel
noncomputable def d97 : Dat := ⟨10, false, [[0, 1, 3, 7], [0, 2, 3, 7]], [[0, 4], [1, 2, 5, 6, 9], [3, 8], [7]], [[1, 2, 5, 6, 9], [3, 8], [3, 8], [7], [5, 6, 9], [8], [8], [], [], []], [[2, 2], [1, 2, 2, 2, 2], [2, 2], [2]], [[0, 0, 0, 0], [1, 2, 1, 2], [3, 3, 3, 3], [7, 7, 7, 7]]⟩
theorem d97Ok : tailOk d97 = true := by decide +kernel
noncomputable def d98 : Dat := ⟨10, false, [[0, 1, 3, 7], [0, 2, 3, 7]], [[0, 4], [1, 2, 5, 6], [3, 8, 9], [7]], [[1, 2, 5, 6], [3, 8], [3, 8], [7], [5, 6], [8, 9], [8, 9], [], [], []], [[2, 2], [1, 2, 2, 2], [2, 2, 2], [2]], [[0, 0, 0, 0], [1, 2, 1, 2], [3, 3, 3, 3], [7, 7, 7, 7]]⟩
theorem d98Ok : tailOk d98 = true := by decide +kernel
noncomputable def d99 : Dat := ⟨10, false, [[0, 1, 3, 7], [0, 2, 3, 7]], [[0, 4], [1, 2, 5, 6], [3, 8, 9], [7]], [[1, 2, 5, 6], [3, 8, 9], [3, 8, 9], [7], [5, 6], [8, 9], [8, 9], [], [], []], [[2, 2], [1, 2, 2, 2], [2, 2, 2], [2]], [[0, 0, 0, 0], [1, 2, 1, 2], [3, 3, 3, 3], [7, 7, 7, 7]]⟩
theorem d99Ok : tailOk d99 = true := by decide +kernel
noncomputable def d100 : Dat := ⟨10, false, [[0, 1, 3, 7], [0, 2, 3, 7], [0, 1, 3, 9], [0, 2, 3, 9], [0, 1, 8, 9], [0, 2, 8, 9], [0, 5, 8, 9], [4, 5, 8, 9], [0, 6, 8, 9], [4, 6, 8, 9]], [[0, 4], [1, 2, 5, 6], [3, 8], [7, 9]], [[1, 2, 5, 6], [3, 8], [3, 8], [7, 9], [5, 6], [8], [8], [], [9], []], [[8, 10], [3, 6, 8, 10], [4, 10], [2, 10]], [[0, 0, 0, 0, 0, 0, 0, 0, 0, 0, 4, 4], [2, 2, 1, 1, 1, 2, 2, 2, 5, 5, 6, 6], [8, 8, 3, 3, 3, 3, 8, 8, 8, 8, 8, 8], [9, 9, 7, 7, 9, 9, 9, 9, 9, 9, 9, 9]]⟩
theorem d100Ok : tailOk d100 = true := by decide +kernel
noncomputable def d101 : Dat := ⟨10, false, [[0, 1, 3, 7, 9], [0, 2, 3, 7, 9]], [[0, 4], [1, 2, 5, 6], [3, 8], [7], [9]], [[1, 2, 5, 6], [3, 8], [3, 8], [7], [5, 6], [8], [8], [9], [], []], [[2, 2], [1, 2, 2, 2], [2, 2], [2], [2]], [[0, 0, 0, 0], [1, 2, 1, 2], [3, 3, 3, 3], [7, 7, 7, 7], [9, 9, 9, 9]]⟩
theorem d101Ok : tailOk d101 = true := by decide +kernel
noncomputable def d102 : Dat := ⟨10, false, [[0, 2, 3, 7]], [[0, 4, 9], [1, 2, 5, 6], [3, 8], [7]], [[1, 2, 5, 6], [], [3, 8], [7], [5, 6], [8], [8], [], [], []], [[1, 1, 1], [0, 1, 1, 1], [1, 1], [1]], [[0, 0, 0], [2, 2, 2], [3, 3, 3], [7, 7, 7]]⟩
theorem d102Ok : tailOk d102 = true := by decide +kernel
noncomputable def d103 : Dat := ⟨10, false, [[0, 2, 3, 7]], [[0, 4], [1, 2, 5, 6, 9], [3, 8], [7]], [[1, 2, 5, 6, 9], [], [3, 8], [7], [5, 6, 9], [8], [8], [], [], []], [[1, 1], [0, 1, 1, 1, 1], [1, 1], [1]], [[0, 0, 0], [2, 2, 2], [3, 3, 3], [7, 7, 7]]⟩
theorem d103Ok : tailOk d103 = true := by decide +kernel
noncomputable def d104 : Dat := ⟨10, false, [[0, 2, 3, 7]], [[0, 4], [1, 2, 5, 6], [3, 8, 9], [7]], [[1, 2, 5, 6], [], [3, 8], [7], [5, 6], [8, 9], [8, 9], [], [], []], [[1, 1], [0, 1, 1, 1], [1, 1, 1], [1]], [[0, 0, 0], [2, 2, 2], [3, 3, 3], [7, 7, 7]]⟩
theorem d104Ok : tailOk d104 = true := by decide +kernel
noncomputable def d105 : Dat := ⟨10, false, [[0, 2, 3, 7]], [[0, 4], [1, 2, 5, 6], [3, 8, 9], [7]], [[1, 2, 5, 6], [], [3, 8, 9], [7], [5, 6], [8, 9], [8, 9], [], [], []], [[1, 1], [0, 1, 1, 1], [1, 1, 1], [1]], [[0, 0, 0], [2, 2, 2], [3, 3, 3], [7, 7, 7]]⟩
theorem d105Ok : tailOk d105 = true := by decide +kernel
noncomputable def d106 : Dat := ⟨10, false, [[0, 2, 3, 7], [0, 2, 3, 9], [0, 2, 8, 9], [0, 5, 8, 9], [4, 5, 8, 9], [0, 6, 8, 9], [4, 6, 8, 9]], [[0, 4], [1, 2, 5, 6], [3, 8], [7, 9]], [[1, 2, 5, 6], [], [3, 8], [7, 9], [5, 6], [8], [8], [], [9], []], [[5, 7], [0, 3, 5, 7], [2, 7], [1, 7]], [[0, 0, 0, 0, 0, 0, 0, 4, 4], [5, 5, 2, 2, 2, 5, 5, 6, 6], [8, 8, 3, 3, 8, 8, 8, 8, 8], [9, 9, 7, 9, 9, 9, 9, 9, 9]]⟩
theorem d106Ok : tailOk d106 = true := by decide +kernel
noncomputable def d107 : Dat := ⟨10, false, [[0, 2, 3, 7, 9]], [[0, 4], [1, 2, 5, 6], [3, 8], [7], [9]], [[1, 2, 5, 6], [], [3, 8], [7], [5, 6], [8], [8], [9], [], []], [[1, 1], [0, 1, 1, 1], [1, 1], [1], [1]], [[0, 0, 0], [2, 2, 2], [3, 3, 3], [7, 7, 7], [9, 9, 9]]⟩
theorem d107Ok : tailOk d107 = true := by decide +kernel
noncomputable def d108 : Dat := ⟨10, true, [[1, 4, 5, 6, 7], [1, 4, 5, 6, 8]], [[0, 1], [2, 4, 9], [3, 5], [6], [7, 8]], [[2], [2, 4, 9], [3], [], [5], [6], [7, 8], [], [], []], [[0, 2], [0, 2, 2], [0, 2], [2], [1, 2]], [[1, 1, 1, 1], [4, 4, 4, 4], [5, 5, 5, 5], [6, 6, 6, 6], [7, 8, 7, 8]]⟩
theorem d108Ok : tailOk d108 = true := by decide +kernel
noncomputable def d109 : Dat := ⟨10, true, [[1, 4, 5, 6, 7], [1, 4, 5, 6, 8]], [[0, 1, 9], [2, 4], [3, 5], [6], [7, 8]], [[2], [2, 4], [3], [], [5], [6], [7, 8], [], [], []], [[0, 2, 2], [0, 2], [0, 2], [2], [1, 2]], [[1, 1, 1, 1], [4, 4, 4, 4], [5, 5, 5, 5], [6, 6, 6, 6], [7, 8, 7, 8]]⟩
theorem d109Ok : tailOk d109 = true := by decide +kernel
noncomputable def d110 : Dat := ⟨10, true, [[1, 4, 5, 6, 7], [1, 4, 5, 6, 8]], [[0, 1], [2, 4], [3, 5, 9], [6], [7, 8]], [[2], [2, 4], [3], [], [5, 9], [6], [7, 8], [], [], []], [[0, 2], [0, 2], [0, 2, 2], [2], [1, 2]], [[1, 1, 1, 1], [4, 4, 4, 4], [5, 5, 5, 5], [6, 6, 6, 6], [7, 8, 7, 8]]⟩
theorem d110Ok : tailOk d110 = true := by decide +kernel
noncomputable def d111 : Dat := ⟨10, true, [[1, 4, 5, 6, 7], [1, 4, 5, 6, 8], [1, 4, 5, 6, 9]], [[0, 1], [2, 4], [3, 5], [6], [7, 8, 9]], [[2], [2, 4], [3], [], [5], [6], [7, 8, 9], [], [], []], [[0, 3], [0, 3], [0, 3], [3], [1, 2, 3]], [[1, 1, 1, 1, 1], [4, 4, 4, 4, 4], [5, 5, 5, 5, 5], [6, 6, 6, 6, 6], [8, 8, 7, 8, 9]]⟩
theorem d111Ok : tailOk d111 = true := by decide +kernel
noncomputable def d112 : Dat := ⟨10, true, [[1, 4, 5, 6, 8, 9]], [[0, 1], [2, 4], [3, 5], [6], [7, 8], [9]], [[2], [2, 4], [3], [], [5], [6], [7, 8], [], [9], []], [[0, 1], [0, 1], [0, 1], [1], [0, 1], [1]], [[1, 1, 1], [4, 4, 4], [5, 5, 5], [6, 6, 6], [8, 8, 8], [9, 9, 9]]⟩
theorem d112Ok : tailOk d112 = true := by decide +kernel
noncomputable def d113 : Dat := ⟨10, true, [[1, 4, 5, 6, 7, 9], [1, 4, 5, 6, 8, 9]], [[0, 1], [2, 4], [3, 5], [6], [7, 8], [9]], [[2], [2, 4], [3], [], [5], [6], [7, 8], [9], [9], []], [[0, 2], [0, 2], [0, 2], [2], [1, 2], [2]], [[1, 1, 1, 1], [4, 4, 4, 4], [5, 5, 5, 5], [6, 6, 6, 6], [7, 8, 7, 8], [9, 9, 9, 9]]⟩
theorem d113Ok : tailOk d113 = true := by decide +kernel
noncomputable def d114 : Dat := ⟨10, false, [[0, 2, 3, 7], [1, 2, 3, 7]], [[0, 1, 4, 9], [2, 5, 6], [3, 8], [7]], [[2], [2, 5, 6], [3, 8], [7], [5, 6], [8], [8], [], [], []], [[1, 2, 2, 2], [2, 2, 2], [2, 2], [2]], [[0, 1, 0, 1], [2, 2, 2, 2], [3, 3, 3, 3], [7, 7, 7, 7]]⟩
theorem d114Ok : tailOk d114 = true := by decide +kernel
noncomputable def d115 : Dat := ⟨10, false, [[0, 2, 3, 7], [1, 2, 3, 7]], [[0, 1, 4], [2, 5, 6, 9], [3, 8], [7]], [[2], [2, 5, 6, 9], [3, 8], [7], [5, 6, 9], [8], [8], [], [], []], [[1, 2, 2], [2, 2, 2, 2], [2, 2], [2]], [[0, 1, 0, 1], [2, 2, 2, 2], [3, 3, 3, 3], [7, 7, 7, 7]]⟩
theorem d115Ok : tailOk d115 = true := by decide +kernel
noncomputable def d116 : Dat := ⟨10, false, [[0, 2, 3, 7], [1, 2, 3, 7]], [[0, 1, 4], [2, 5, 6], [3, 8, 9], [7]], [[2], [2, 5, 6], [3, 8], [7], [5, 6], [8, 9], [8, 9], [], [], []], [[1, 2, 2], [2, 2, 2], [2, 2, 2], [2]], [[0, 1, 0, 1], [2, 2, 2, 2], [3, 3, 3, 3], [7, 7, 7, 7]]⟩
theorem d116Ok : tailOk d116 = true := by decide +kernel
noncomputable def d117 : Dat := ⟨10, false, [[0, 2, 3, 7], [1, 2, 3, 7]], [[0, 1, 4], [2, 5, 6], [3, 8, 9], [7]], [[2], [2, 5, 6], [3, 8, 9], [7], [5, 6], [8, 9], [8, 9], [], [], []], [[1, 2, 2], [2, 2, 2], [2, 2, 2], [2]], [[0, 1, 0, 1], [2, 2, 2, 2], [3, 3, 3, 3], [7, 7, 7, 7]]⟩
theorem d117Ok : tailOk d117 = true := by decide +kernel
noncomputable def d118 : Dat := ⟨10, false, [[0, 2, 3, 7], [1, 2, 3, 7], [0, 2, 3, 9], [1, 2, 3, 9], [0, 2, 8, 9], [1, 2, 8, 9], [1, 5, 8, 9], [4, 5, 8, 9], [1, 6, 8, 9], [4, 6, 8, 9]], [[0, 1, 4], [2, 5, 6], [3, 8], [7, 9]], [[2], [2, 5, 6], [3, 8], [7, 9], [5, 6], [8], [8], [], [9], []], [[3, 8, 10], [6, 8, 10], [4, 10], [2, 10]], [[1, 1, 0, 0, 0, 1, 1, 1, 1, 1, 4, 4], [2, 2, 2, 2, 2, 2, 2, 2, 5, 5, 6, 6], [8, 8, 3, 3, 3, 3, 8, 8, 8, 8, 8, 8], [9, 9, 7, 7, 9, 9, 9, 9, 9, 9, 9, 9]]⟩
theorem d118Ok : tailOk d118 = true := by decide +kernel
noncomputable def d119 : Dat := ⟨10, false, [[0, 2, 3, 7, 9], [1, 2, 3, 7, 9]], [[0, 1, 4], [2, 5, 6], [3, 8], [7], [9]], [[2], [2, 5, 6], [3, 8], [7], [5, 6], [8], [8], [9], [], []], [[1, 2, 2], [2, 2, 2], [2, 2], [2], [2]], [[0, 1, 0, 1], [2, 2, 2, 2], [3, 3, 3, 3], [7, 7, 7, 7], [9, 9, 9, 9]]⟩
theorem d119Ok : tailOk d119 = true := by decide +kernel
noncomputable def d120 : Dat := ⟨10, true, [[0, 1, 2, 3, 7], [0, 1, 5, 6, 7], [0, 1, 2, 3, 8], [0, 1, 5, 6, 8]], [[0, 4, 9], [1], [2, 5], [3, 6], [7, 8]], [[1], [2, 5], [3], [7, 8], [], [6], [7, 8], [], [], []], [[4, 4, 4], [4], [2, 4], [2, 4], [2, 4]], [[0, 0, 0, 0, 0, 0], [1, 1, 1, 1, 1, 1], [2, 5, 2, 2, 5, 5], [3, 6, 3, 3, 6, 6], [7, 8, 7, 7, 8, 8]]⟩
theorem d120Ok : tailOk d120 = true := by decide +kernel
noncomputable def d121 : Dat := ⟨10, false, [[0, 2, 3, 7], [1, 2, 3, 7]], [[0, 1, 4, 9], [2, 5, 6], [3, 8], [7]], [[2], [2], [3, 8], [7], [5, 6], [8], [8], [], [], []], [[1, 2, 2, 2], [2, 2, 2], [2, 2], [2]], [[0, 1, 0, 1], [2, 2, 2, 2], [3, 3, 3, 3], [7, 7, 7, 7]]⟩
theorem d121Ok : tailOk d121 = true := by decide +kernel
noncomputable def d122 : Dat := ⟨10, true, [[0, 1, 2, 3, 7], [0, 1, 5, 6, 7], [0, 1, 2, 3, 8], [0, 1, 5, 6, 8]], [[0, 4], [1, 9], [2, 5], [3, 6], [7, 8]], [[1], [2, 5], [3], [7, 8], [9], [6], [7, 8], [], [], []], [[4, 4], [4, 4], [2, 4], [2, 4], [2, 4]], [[0, 0, 0, 0, 0, 0], [1, 1, 1, 1, 1, 1], [2, 5, 2, 2, 5, 5], [3, 6, 3, 3, 6, 6], [7, 8, 7, 7, 8, 8]]⟩
theorem d122Ok : tailOk d122 = true := by decide +kernel
noncomputable def d123 : Dat := ⟨10, true, [[0, 1, 2, 3, 7], [0, 1, 5, 6, 7], [0, 1, 2, 3, 8], [0, 1, 5, 6, 8], [0, 1, 5, 6, 9]], [[0, 4], [1], [2, 5], [3, 6], [7, 8, 9]], [[1], [2, 5], [3], [7, 8], [], [6], [7, 8, 9], [], [], []], [[5, 5], [5], [2, 5], [2, 5], [2, 4, 5]], [[0, 0, 0, 0, 0, 0, 0], [1, 1, 1, 1, 1, 1, 1], [5, 5, 2, 2, 5, 5, 5], [6, 6, 3, 3, 6, 6, 6], [8, 8, 7, 7, 8, 8, 9]]⟩
theorem d123Ok : tailOk d123 = true := by decide +kernel
noncomputable def d124 : Dat := ⟨10, false, [[0, 2, 3, 7], [1, 2, 3, 7]], [[0, 1, 4], [2, 5, 6, 9], [3, 8], [7]], [[2], [2], [3, 8], [7], [5, 6, 9], [8], [8], [], [], []], [[1, 2, 2], [2, 2, 2, 2], [2, 2], [2]], [[0, 1, 0, 1], [2, 2, 2, 2], [3, 3, 3, 3], [7, 7, 7, 7]]⟩
theorem d124Ok : tailOk d124 = true := by decide +kernel
noncomputable def d125 : Dat := ⟨10, false, [[0, 2, 3, 7], [1, 2, 3, 7]], [[0, 1, 4], [2, 5, 6], [3, 8, 9], [7]], [[2], [2], [3, 8], [7], [5, 6], [8, 9], [8, 9], [], [], []], [[1, 2, 2], [2, 2, 2], [2, 2, 2], [2]], [[0, 1, 0, 1], [2, 2, 2, 2], [3, 3, 3, 3], [7, 7, 7, 7]]⟩
theorem d125Ok : tailOk d125 = true := by decide +kernel
noncomputable def d126 : Dat := ⟨10, true, [[0, 1, 2, 3, 8, 9], [0, 1, 5, 6, 8, 9]], [[0, 4], [1], [2, 5], [3, 6], [7, 8], [9]], [[1], [2, 5], [3], [7, 8], [], [6], [7, 8], [], [9], []], [[2, 2], [2], [1, 2], [1, 2], [0, 2], [2]], [[0, 0, 0, 0], [1, 1, 1, 1], [2, 5, 2, 5], [3, 6, 3, 6], [8, 8, 8, 8], [9, 9, 9, 9]]⟩
theorem d126Ok : tailOk d126 = true := by decide +kernel
noncomputable def d127 : Dat := ⟨10, false, [[0, 2, 3, 7], [1, 2, 3, 7]], [[0, 1, 4], [2, 5, 6], [3, 8, 9], [7]], [[2], [2], [3, 8, 9], [7], [5, 6], [8, 9], [8, 9], [], [], []], [[1, 2, 2], [2, 2, 2], [2, 2, 2], [2]], [[0, 1, 0, 1], [2, 2, 2, 2], [3, 3, 3, 3], [7, 7, 7, 7]]⟩
theorem d127Ok : tailOk d127 = true := by decide +kernel
noncomputable def d128 : Dat := ⟨10, true, [[0, 1, 2, 3, 7, 9], [0, 1, 5, 6, 7, 9], [0, 1, 2, 3, 8, 9], [0, 1, 5, 6, 8, 9]], [[0, 4], [1], [2, 5], [3, 6], [7, 8], [9]], [[1], [2, 5], [3], [7, 8], [], [6], [7, 8], [9], [9], []], [[4, 4], [4], [2, 4], [2, 4], [2, 4], [4]], [[0, 0, 0, 0, 0, 0], [1, 1, 1, 1, 1, 1], [2, 5, 2, 2, 5, 5], [3, 6, 3, 3, 6, 6], [7, 8, 7, 7, 8, 8], [9, 9, 9, 9, 9, 9]]⟩
theorem d128Ok : tailOk d128 = true := by decide +kernel
noncomputable def d129 : Dat := ⟨10, false, [[0, 2, 3, 7], [1, 2, 3, 7], [0, 2, 3, 9], [1, 2, 3, 9], [0, 2, 8, 9], [1, 2, 8, 9], [4, 5, 8, 9], [4, 6, 8, 9]], [[0, 1, 4], [2, 5, 6], [3, 8], [7, 9]], [[2], [2], [3, 8], [7, 9], [5, 6], [8], [8], [], [9], []], [[3, 6, 8], [6, 7, 8], [4, 8], [2, 8]], [[1, 1, 0, 0, 0, 1, 1, 1, 4, 4], [2, 2, 2, 2, 2, 2, 2, 2, 5, 6], [3, 8, 3, 3, 3, 3, 8, 8, 8, 8], [9, 9, 7, 7, 9, 9, 9, 9, 9, 9]]⟩
theorem d129Ok : tailOk d129 = true := by decide +kernel
noncomputable def d130 : Dat := ⟨10, false, [[0, 2, 3, 7, 9], [1, 2, 3, 7, 9]], [[0, 1, 4], [2, 5, 6], [3, 8], [7], [9]], [[2], [2], [3, 8], [7], [5, 6], [8], [8], [9], [], []], [[1, 2, 2], [2, 2, 2], [2, 2], [2], [2]], [[0, 1, 0, 1], [2, 2, 2, 2], [3, 3, 3, 3], [7, 7, 7, 7], [9, 9, 9, 9]]⟩
theorem d130Ok : tailOk d130 = true := by decide +kernel
noncomputable def d131 : Dat := ⟨10, true, [[0, 1, 2, 3, 7], [0, 1, 2, 3, 8]], [[0, 4, 9], [1, 5], [2, 6], [3], [7, 8]], [[1, 5], [2], [3], [7, 8], [5], [6], [], [], [], []], [[2, 2, 2], [2, 2], [2, 2], [2], [1, 2]], [[0, 0, 0, 0], [1, 1, 1, 1], [2, 2, 2, 2], [3, 3, 3, 3], [7, 8, 7, 8]]⟩
theorem d131Ok : tailOk d131 = true := by decide +kernel
noncomputable def d132 : Dat := ⟨10, false, [[0, 1, 3, 7], [0, 2, 3, 7]], [[0, 4, 9], [1, 2, 5, 6], [3, 8], [7]], [[1, 2], [3, 8], [3, 8], [7], [5, 6], [8], [8], [], [], []], [[2, 2, 2], [1, 2, 2, 2], [2, 2], [2]], [[0, 0, 0, 0], [1, 2, 1, 2], [3, 3, 3, 3], [7, 7, 7, 7]]⟩
theorem d132Ok : tailOk d132 = true := by decide +kernel
noncomputable def d133 : Dat := ⟨10, true, [[0, 1, 2, 3, 7], [0, 1, 2, 3, 8]], [[0, 4], [1, 5, 9], [2, 6], [3], [7, 8]], [[1, 5], [2], [3], [7, 8], [5, 9], [6], [], [], [], []], [[2, 2], [2, 2, 2], [2, 2], [2], [1, 2]], [[0, 0, 0, 0], [1, 1, 1, 1], [2, 2, 2, 2], [3, 3, 3, 3], [7, 8, 7, 8]]⟩
theorem d133Ok : tailOk d133 = true := by decide +kernel
noncomputable def d134 : Dat := ⟨10, true, [[0, 1, 2, 3, 7], [0, 1, 2, 3, 8]], [[0, 4], [1, 5], [2, 6], [3, 9], [7, 8]], [[1, 5], [2], [3], [7, 8], [5], [6], [9], [], [], []], [[2, 2], [2, 2], [2, 2], [2, 2], [1, 2]], [[0, 0, 0, 0], [1, 1, 1, 1], [2, 2, 2, 2], [3, 3, 3, 3], [7, 8, 7, 8]]⟩
theorem d134Ok : tailOk d134 = true := by decide +kernel
noncomputable def d135 : Dat := ⟨10, false, [[0, 1, 3, 7], [0, 2, 3, 7]], [[0, 4], [1, 2, 5, 6, 9], [3, 8], [7]], [[1, 2], [3, 8], [3, 8], [7], [5, 6, 9], [8], [8], [], [], []], [[2, 2], [1, 2, 2, 2, 2], [2, 2], [2]], [[0, 0, 0, 0], [1, 2, 1, 2], [3, 3, 3, 3], [7, 7, 7, 7]]⟩
theorem d135Ok : tailOk d135 = true := by decide +kernel
noncomputable def d136 : Dat := ⟨10, true, [[0, 1, 2, 3, 7], [0, 1, 2, 3, 8]], [[0, 4], [1, 5], [2, 6], [3, 9], [7, 8]], [[1, 5], [2], [3, 9], [7, 8], [5], [6], [9], [], [], []], [[2, 2], [2, 2], [2, 2], [2, 2], [1, 2]], [[0, 0, 0, 0], [1, 1, 1, 1], [2, 2, 2, 2], [3, 3, 3, 3], [7, 8, 7, 8]]⟩
theorem d136Ok : tailOk d136 = true := by decide +kernel
noncomputable def d137 : Dat := ⟨10, false, [[0, 1, 3, 7], [0, 2, 3, 7]], [[0, 4], [1, 2, 5, 6], [3, 8, 9], [7]], [[1, 2], [3, 8], [3, 8], [7], [5, 6], [8, 9], [8, 9], [], [], []], [[2, 2], [1, 2, 2, 2], [2, 2, 2], [2]], [[0, 0, 0, 0], [1, 2, 1, 2], [3, 3, 3, 3], [7, 7, 7, 7]]⟩
theorem d137Ok : tailOk d137 = true := by decide +kernel
noncomputable def d138 : Dat := ⟨10, true, [[0, 1, 2, 3, 8, 9]], [[0, 4], [1, 5], [2, 6], [3], [7, 8], [9]], [[1, 5], [2], [3], [7, 8], [5], [6], [], [], [9], []], [[1, 1], [1, 1], [1, 1], [1], [0, 1], [1]], [[0, 0, 0], [1, 1, 1], [2, 2, 2], [3, 3, 3], [8, 8, 8], [9, 9, 9]]⟩
theorem d138Ok : tailOk d138 = true := by decide +kernel
noncomputable def d139 : Dat := ⟨10, false, [[0, 1, 3, 7], [0, 2, 3, 7]], [[0, 4], [1, 2, 5, 6], [3, 8, 9], [7]], [[1, 2], [3, 8, 9], [3, 8, 9], [7], [5, 6], [8, 9], [8, 9], [], [], []], [[2, 2], [1, 2, 2, 2], [2, 2, 2], [2]], [[0, 0, 0, 0], [1, 2, 1, 2], [3, 3, 3, 3], [7, 7, 7, 7]]⟩
theorem d139Ok : tailOk d139 = true := by decide +kernel
noncomputable def d140 : Dat := ⟨10, true, [[0, 1, 2, 3, 7, 9], [0, 1, 2, 3, 8, 9]], [[0, 4], [1, 5], [2, 6], [3], [7, 8], [9]], [[1, 5], [2], [3], [7, 8], [5], [6], [], [9], [9], []], [[2, 2], [2, 2], [2, 2], [2], [1, 2], [2]], [[0, 0, 0, 0], [1, 1, 1, 1], [2, 2, 2, 2], [3, 3, 3, 3], [7, 8, 7, 8], [9, 9, 9, 9]]⟩
theorem d140Ok : tailOk d140 = true := by decide +kernel
noncomputable def d141 : Dat := ⟨10, false, [[0, 1, 3, 7], [0, 2, 3, 7], [0, 1, 3, 9], [0, 2, 3, 9], [0, 1, 8, 9], [0, 2, 8, 9], [4, 5, 8, 9], [4, 6, 8, 9]], [[0, 4], [1, 2, 5, 6], [3, 8], [7, 9]], [[1, 2], [3, 8], [3, 8], [7, 9], [5, 6], [8], [8], [], [9], []], [[6, 8], [3, 6, 7, 8], [4, 8], [2, 8]], [[0, 0, 0, 0, 0, 0, 0, 0, 4, 4], [2, 2, 1, 1, 1, 2, 2, 2, 5, 6], [3, 8, 3, 3, 3, 3, 8, 8, 8, 8], [9, 9, 7, 7, 9, 9, 9, 9, 9, 9]]⟩
theorem d141Ok : tailOk d141 = true := by decide +kernel
noncomputable def d142 : Dat := ⟨10, false, [[0, 1, 3, 7, 9], [0, 2, 3, 7, 9]], [[0, 4], [1, 2, 5, 6], [3, 8], [7], [9]], [[1, 2], [3, 8], [3, 8], [7], [5, 6], [8], [8], [9], [], []], [[2, 2], [1, 2, 2, 2], [2, 2], [2], [2]], [[0, 0, 0, 0], [1, 2, 1, 2], [3, 3, 3, 3], [7, 7, 7, 7], [9, 9, 9, 9]]⟩
theorem d142Ok : tailOk d142 = true := by decide +kernel
noncomputable def d143 : Dat := ⟨10, true, [[0, 1, 3, 7], [0, 2, 3, 7], [0, 5, 6, 7], [4, 5, 6, 7], [0, 1, 3, 8], [0, 2, 3, 8], [0, 5, 6, 8], [4, 5, 6, 8]], [[0, 4, 9], [1, 2, 5], [3, 6], [7, 8]], [[1, 2, 5], [3], [3], [7, 8], [5], [6], [7, 8], [], [], []], [[6, 8, 8], [2, 4, 8], [4, 8], [4, 8]], [[0, 0, 0, 0, 0, 0, 0, 0, 4, 4], [2, 5, 1, 1, 2, 2, 5, 5, 5, 5], [3, 6, 3, 3, 3, 3, 6, 6, 6, 6], [7, 8, 7, 7, 7, 7, 8, 8, 8, 8]]⟩
theorem d143Ok : tailOk d143 = true := by decide +kernel
noncomputable def d144 : Dat := ⟨10, false, [[0, 2, 3, 7]], [[0, 4, 9], [1, 2, 5, 6], [3, 8], [7]], [[1, 2], [], [3, 8], [7], [5, 6], [8], [8], [], [], []], [[1, 1, 1], [0, 1, 1, 1], [1, 1], [1]], [[0, 0, 0], [2, 2, 2], [3, 3, 3], [7, 7, 7]]⟩
theorem d144Ok : tailOk d144 = true := by decide +kernel
noncomputable def d145 : Dat := ⟨10, true, [[0, 1, 3, 7], [0, 2, 3, 7], [0, 5, 6, 7], [4, 5, 6, 7], [0, 1, 3, 8], [0, 2, 3, 8], [0, 5, 6, 8], [4, 5, 6, 8]], [[0, 4], [1, 2, 5, 9], [3, 6], [7, 8]], [[1, 2, 5], [3], [3], [7, 8], [5, 9], [6], [7, 8], [], [], []], [[6, 8], [2, 4, 8, 8], [4, 8], [4, 8]], [[0, 0, 0, 0, 0, 0, 0, 0, 4, 4], [2, 5, 1, 1, 2, 2, 5, 5, 5, 5], [3, 6, 3, 3, 3, 3, 6, 6, 6, 6], [7, 8, 7, 7, 7, 7, 8, 8, 8, 8]]⟩
theorem d145Ok : tailOk d145 = true := by decide +kernel
noncomputable def d146 : Dat := ⟨10, true, [[0, 1, 3, 7], [0, 2, 3, 7], [0, 5, 6, 7], [4, 5, 6, 7], [0, 1, 3, 8], [0, 2, 3, 8], [0, 5, 6, 8], [4, 5, 6, 8], [0, 5, 6, 9], [4, 5, 6, 9]], [[0, 4], [1, 2, 5], [3, 6], [7, 8, 9]], [[1, 2, 5], [3], [3], [7, 8], [5], [6], [7, 8, 9], [], [], []], [[7, 10], [2, 4, 10], [4, 10], [4, 8, 10]], [[0, 0, 0, 0, 0, 0, 0, 0, 0, 4, 4, 4], [5, 5, 1, 1, 2, 2, 5, 5, 5, 5, 5, 5], [6, 6, 3, 3, 3, 3, 6, 6, 6, 6, 6, 6], [8, 8, 7, 7, 7, 7, 8, 8, 8, 8, 9, 9]]⟩
theorem d146Ok : tailOk d146 = true := by decide +kernel
noncomputable def d147 : Dat := ⟨10, false, [[0, 2, 3, 7]], [[0, 4], [1, 2, 5, 6, 9], [3, 8], [7]], [[1, 2], [], [3, 8], [7], [5, 6, 9], [8], [8], [], [], []], [[1, 1], [0, 1, 1, 1, 1], [1, 1], [1]], [[0, 0, 0], [2, 2, 2], [3, 3, 3], [7, 7, 7]]⟩
theorem d147Ok : tailOk d147 = true := by decide +kernel
noncomputable def d148 : Dat := ⟨10, false, [[0, 2, 3, 7]], [[0, 4], [1, 2, 5, 6], [3, 8, 9], [7]], [[1, 2], [], [3, 8], [7], [5, 6], [8, 9], [8, 9], [], [], []], [[1, 1], [0, 1, 1, 1], [1, 1, 1], [1]], [[0, 0, 0], [2, 2, 2], [3, 3, 3], [7, 7, 7]]⟩
theorem d148Ok : tailOk d148 = true := by decide +kernel
noncomputable def d149 : Dat := ⟨10, true, [[0, 1, 3, 8, 9], [0, 2, 3, 8, 9], [0, 5, 6, 8, 9], [4, 5, 6, 8, 9]], [[0, 4], [1, 2, 5], [3, 6], [7, 8], [9]], [[1, 2, 5], [3], [3], [7, 8], [5], [6], [7, 8], [], [9], []], [[3, 4], [1, 2, 4], [2, 4], [0, 4], [4]], [[0, 0, 0, 0, 0, 4], [2, 5, 1, 2, 5, 5], [3, 6, 3, 3, 6, 6], [8, 8, 8, 8, 8, 8], [9, 9, 9, 9, 9, 9]]⟩
theorem d149Ok : tailOk d149 = true := by decide +kernel
noncomputable def d150 : Dat := ⟨10, false, [[0, 2, 3, 7]], [[0, 4], [1, 2, 5, 6], [3, 8, 9], [7]], [[1, 2], [], [3, 8, 9], [7], [5, 6], [8, 9], [8, 9], [], [], []], [[1, 1], [0, 1, 1, 1], [1, 1, 1], [1]], [[0, 0, 0], [2, 2, 2], [3, 3, 3], [7, 7, 7]]⟩
theorem d150Ok : tailOk d150 = true := by decide +kernel
noncomputable def d151 : Dat := ⟨10, true, [[0, 1, 3, 7, 9], [0, 2, 3, 7, 9], [0, 5, 6, 7, 9], [4, 5, 6, 7, 9], [0, 1, 3, 8, 9], [0, 2, 3, 8, 9], [0, 5, 6, 8, 9], [4, 5, 6, 8, 9]], [[0, 4], [1, 2, 5], [3, 6], [7, 8], [9]], [[1, 2, 5], [3], [3], [7, 8], [5], [6], [7, 8], [9], [9], []], [[6, 8], [2, 4, 8], [4, 8], [4, 8], [8]], [[0, 0, 0, 0, 0, 0, 0, 0, 4, 4], [2, 5, 1, 1, 2, 2, 5, 5, 5, 5], [3, 6, 3, 3, 3, 3, 6, 6, 6, 6], [7, 8, 7, 7, 7, 7, 8, 8, 8, 8], [9, 9, 9, 9, 9, 9, 9, 9, 9, 9]]⟩
theorem d151Ok : tailOk d151 = true := by decide +kernel
noncomputable def d152 : Dat := ⟨10, false, [[0, 2, 3, 7], [0, 2, 3, 9], [0, 2, 8, 9], [4, 5, 8, 9], [4, 6, 8, 9]], [[0, 4], [1, 2, 5, 6], [3, 8], [7, 9]], [[1, 2], [], [3, 8], [7, 9], [5, 6], [8], [8], [], [9], []], [[3, 5], [0, 3, 4, 5], [2, 5], [1, 5]], [[0, 0, 0, 0, 0, 4, 4], [2, 2, 2, 2, 2, 5, 6], [8, 8, 3, 3, 8, 8, 8], [9, 9, 7, 9, 9, 9, 9]]⟩
theorem d152Ok : tailOk d152 = true := by decide +kernel
noncomputable def d153 : Dat := ⟨10, false, [[0, 2, 3, 7, 9]], [[0, 4], [1, 2, 5, 6], [3, 8], [7], [9]], [[1, 2], [], [3, 8], [7], [5, 6], [8], [8], [9], [], []], [[1, 1], [0, 1, 1, 1], [1, 1], [1], [1]], [[0, 0, 0], [2, 2, 2], [3, 3, 3], [7, 7, 7], [9, 9, 9]]⟩
theorem d153Ok : tailOk d153 = true := by decide +kernel
noncomputable def d154 : Dat := ⟨10, true, [[0, 2, 3, 7], [0, 5, 6, 7], [4, 5, 6, 7], [0, 2, 3, 8], [0, 5, 6, 8], [4, 5, 6, 8]], [[0, 4, 9], [1, 2, 5], [3, 6], [7, 8]], [[1, 2, 5], [], [3], [7, 8], [5], [6], [7, 8], [], [], []], [[4, 6, 6], [0, 2, 6], [2, 6], [3, 6]], [[0, 0, 0, 0, 0, 0, 4, 4], [5, 5, 2, 2, 5, 5, 5, 5], [6, 6, 3, 3, 6, 6, 6, 6], [7, 8, 7, 7, 7, 8, 8, 8]]⟩
theorem d154Ok : tailOk d154 = true := by decide +kernel
noncomputable def d155 : Dat := ⟨10, true, [[0, 2, 3, 7], [0, 5, 6, 7], [4, 5, 6, 7], [0, 2, 3, 8], [0, 5, 6, 8], [4, 5, 6, 8]], [[0, 4], [1, 2, 5, 9], [3, 6], [7, 8]], [[1, 2, 5], [], [3], [7, 8], [5, 9], [6], [7, 8], [], [], []], [[4, 6], [0, 2, 6, 6], [2, 6], [3, 6]], [[0, 0, 0, 0, 0, 0, 4, 4], [5, 5, 2, 2, 5, 5, 5, 5], [6, 6, 3, 3, 6, 6, 6, 6], [7, 8, 7, 7, 7, 8, 8, 8]]⟩
theorem d155Ok : tailOk d155 = true := by decide +kernel
noncomputable def d156 : Dat := ⟨10, true, [[0, 2, 3, 7], [0, 5, 6, 7], [4, 5, 6, 7], [0, 2, 3, 8], [0, 5, 6, 8], [4, 5, 6, 8], [0, 5, 6, 9], [4, 5, 6, 9]], [[0, 4], [1, 2, 5], [3, 6], [7, 8, 9]], [[1, 2, 5], [], [3], [7, 8], [5], [6], [7, 8, 9], [], [], []], [[5, 8], [0, 2, 8], [2, 8], [3, 6, 8]], [[0, 0, 0, 0, 0, 0, 0, 4, 4, 4], [5, 5, 2, 2, 5, 5, 5, 5, 5, 5], [6, 6, 3, 3, 6, 6, 6, 6, 6, 6], [8, 8, 7, 7, 7, 8, 8, 8, 9, 9]]⟩
theorem d156Ok : tailOk d156 = true := by decide +kernel
noncomputable def d157 : Dat := ⟨10, true, [[0, 2, 3, 8, 9], [0, 5, 6, 8, 9], [4, 5, 6, 8, 9]], [[0, 4], [1, 2, 5], [3, 6], [7, 8], [9]], [[1, 2, 5], [], [3], [7, 8], [5], [6], [7, 8], [], [9], []], [[2, 3], [0, 1, 3], [1, 3], [0, 3], [3]], [[0, 0, 0, 0, 4], [5, 5, 2, 5, 5], [6, 6, 3, 6, 6], [8, 8, 8, 8, 8], [9, 9, 9, 9, 9]]⟩
theorem d157Ok : tailOk d157 = true := by decide +kernel
noncomputable def d158 : Dat := ⟨10, true, [[0, 2, 3, 7, 9], [0, 5, 6, 7, 9], [4, 5, 6, 7, 9], [0, 2, 3, 8, 9], [0, 5, 6, 8, 9], [4, 5, 6, 8, 9]], [[0, 4], [1, 2, 5], [3, 6], [7, 8], [9]], [[1, 2, 5], [], [3], [7, 8], [5], [6], [7, 8], [9], [9], []], [[4, 6], [0, 2, 6], [2, 6], [3, 6], [6]], [[0, 0, 0, 0, 0, 0, 4, 4], [5, 5, 2, 2, 5, 5, 5, 5], [6, 6, 3, 3, 6, 6, 6, 6], [7, 8, 7, 7, 7, 8, 8, 8], [9, 9, 9, 9, 9, 9, 9, 9]]⟩
theorem d158Ok : tailOk d158 = true := by decide +kernel
noncomputable def d159 : Dat := ⟨10, false, [[1, 2, 3, 7], [1, 4, 5, 7], [1, 4, 6, 7], [1, 4, 5, 8], [1, 4, 6, 8]], [[0, 1], [2, 4, 9], [3, 5, 6], [7, 8]], [[], [2, 4, 9], [3], [7], [5, 6], [7, 8], [7, 8], [], [], []], [[0, 5], [1, 5, 5], [1, 3, 5], [3, 5]], [[1, 1, 1, 1, 1, 1, 1], [4, 4, 2, 4, 4, 4, 4], [5, 5, 3, 5, 5, 6, 6], [7, 7, 7, 7, 7, 8, 8]]⟩
theorem d159Ok : tailOk d159 = true := by decide +kernel
noncomputable def d160 : Dat := ⟨10, false, [[1, 2, 3, 7], [1, 4, 5, 7], [1, 4, 6, 7], [1, 4, 5, 8], [1, 4, 6, 8]], [[0, 1, 9], [2, 4], [3, 5, 6], [7, 8]], [[], [2, 4], [3], [7], [5, 6], [7, 8], [7, 8], [], [], []], [[0, 5, 5], [1, 5], [1, 3, 5], [3, 5]], [[1, 1, 1, 1, 1, 1, 1], [4, 4, 2, 4, 4, 4, 4], [5, 5, 3, 5, 5, 6, 6], [7, 7, 7, 7, 7, 8, 8]]⟩
theorem d160Ok : tailOk d160 = true := by decide +kernel
noncomputable def d161 : Dat := ⟨10, false, [[1, 2, 3, 7], [1, 4, 5, 7], [1, 4, 6, 7], [1, 4, 5, 8], [1, 4, 6, 8]], [[0, 1], [2, 4], [3, 5, 6, 9], [7, 8]], [[], [2, 4], [3], [7], [5, 6, 9], [7, 8], [7, 8], [], [], []], [[0, 5], [1, 5], [1, 3, 5, 5], [3, 5]], [[1, 1, 1, 1, 1, 1, 1], [4, 4, 2, 4, 4, 4, 4], [5, 5, 3, 5, 5, 6, 6], [7, 7, 7, 7, 7, 8, 8]]⟩
theorem d161Ok : tailOk d161 = true := by decide +kernel
noncomputable def d162 : Dat := ⟨10, false, [[1, 2, 3, 7], [1, 4, 5, 7], [1, 4, 6, 7], [1, 4, 5, 8], [1, 4, 6, 8], [1, 4, 5, 9], [1, 4, 6, 9]], [[0, 1], [2, 4], [3, 5, 6], [7, 8, 9]], [[], [2, 4], [3], [7], [5, 6], [7, 8, 9], [7, 8, 9], [], [], []], [[0, 7], [1, 7], [1, 4, 7], [3, 5, 7]], [[1, 1, 1, 1, 1, 1, 1, 1, 1], [4, 4, 2, 4, 4, 4, 4, 4, 4], [5, 5, 3, 5, 5, 5, 6, 6, 6], [8, 8, 7, 7, 7, 8, 8, 9, 9]]⟩
theorem d162Ok : tailOk d162 = true := by decide +kernel
noncomputable def d163 : Dat := ⟨10, false, [[1, 4, 5, 8, 9], [1, 4, 6, 8, 9]], [[0, 1], [2, 4], [3, 5, 6], [7, 8], [9]], [[], [2, 4], [3], [7], [5, 6], [7, 8], [7, 8], [], [9], []], [[0, 2], [0, 2], [0, 1, 2], [0, 2], [2]], [[1, 1, 1, 1], [4, 4, 4, 4], [5, 6, 5, 6], [8, 8, 8, 8], [9, 9, 9, 9]]⟩
theorem d163Ok : tailOk d163 = true := by decide +kernel
noncomputable def d164 : Dat := ⟨10, false, [[1, 2, 3, 7, 9], [1, 4, 5, 7, 9], [1, 4, 6, 7, 9], [1, 4, 5, 8, 9], [1, 4, 6, 8, 9]], [[0, 1], [2, 4], [3, 5, 6], [7, 8], [9]], [[], [2, 4], [3], [7], [5, 6], [7, 8], [7, 8], [9], [9], []], [[0, 5], [1, 5], [1, 3, 5], [3, 5], [5]], [[1, 1, 1, 1, 1, 1, 1], [4, 4, 2, 4, 4, 4, 4], [5, 5, 3, 5, 5, 6, 6], [7, 7, 7, 7, 7, 8, 8], [9, 9, 9, 9, 9, 9, 9]]⟩
theorem d164Ok : tailOk d164 = true := by decide +kernel
noncomputable def d165 : Dat := ⟨10, false, [[1, 2, 3, 7]], [[0, 1, 4, 9], [2, 5, 6], [3, 8], [7]], [[], [2, 5, 6], [3, 8], [7], [5, 6], [8], [8], [], [], []], [[0, 1, 1, 1], [1, 1, 1], [1, 1], [1]], [[1, 1, 1], [2, 2, 2], [3, 3, 3], [7, 7, 7]]⟩
theorem d165Ok : tailOk d165 = true := by decide +kernel
noncomputable def d166 : Dat := ⟨10, false, [[1, 2, 3, 7]], [[0, 1, 4], [2, 5, 6, 9], [3, 8], [7]], [[], [2, 5, 6, 9], [3, 8], [7], [5, 6, 9], [8], [8], [], [], []], [[0, 1, 1], [1, 1, 1, 1], [1, 1], [1]], [[1, 1, 1], [2, 2, 2], [3, 3, 3], [7, 7, 7]]⟩
theorem d166Ok : tailOk d166 = true := by decide +kernel
noncomputable def d167 : Dat := ⟨10, false, [[1, 2, 3, 7]], [[0, 1, 4], [2, 5, 6], [3, 8, 9], [7]], [[], [2, 5, 6], [3, 8], [7], [5, 6], [8, 9], [8, 9], [], [], []], [[0, 1, 1], [1, 1, 1], [1, 1, 1], [1]], [[1, 1, 1], [2, 2, 2], [3, 3, 3], [7, 7, 7]]⟩
theorem d167Ok : tailOk d167 = true := by decide +kernel
noncomputable def d168 : Dat := ⟨10, false, [[1, 2, 3, 7]], [[0, 1, 4], [2, 5, 6], [3, 8, 9], [7]], [[], [2, 5, 6], [3, 8, 9], [7], [5, 6], [8, 9], [8, 9], [], [], []], [[0, 1, 1], [1, 1, 1], [1, 1, 1], [1]], [[1, 1, 1], [2, 2, 2], [3, 3, 3], [7, 7, 7]]⟩
theorem d168Ok : tailOk d168 = true := by decide +kernel
noncomputable def d169 : Dat := ⟨10, false, [[1, 2, 3, 7], [1, 2, 3, 9], [1, 2, 8, 9], [1, 5, 8, 9], [4, 5, 8, 9], [1, 6, 8, 9], [4, 6, 8, 9]], [[0, 1, 4], [2, 5, 6], [3, 8], [7, 9]], [[], [2, 5, 6], [3, 8], [7, 9], [5, 6], [8], [8], [], [9], []], [[0, 5, 7], [3, 5, 7], [2, 7], [1, 7]], [[1, 1, 1, 1, 1, 1, 1, 4, 4], [5, 5, 2, 2, 2, 5, 5, 6, 6], [8, 8, 3, 3, 8, 8, 8, 8, 8], [9, 9, 7, 9, 9, 9, 9, 9, 9]]⟩
theorem d169Ok : tailOk d169 = true := by decide +kernel
noncomputable def d170 : Dat := ⟨10, false, [[1, 2, 3, 7, 9]], [[0, 1, 4], [2, 5, 6], [3, 8], [7], [9]], [[], [2, 5, 6], [3, 8], [7], [5, 6], [8], [8], [9], [], []], [[0, 1, 1], [1, 1, 1], [1, 1], [1], [1]], [[1, 1, 1], [2, 2, 2], [3, 3, 3], [7, 7, 7], [9, 9, 9]]⟩
theorem d170Ok : tailOk d170 = true := by decide +kernel
noncomputable def d171 : Dat := ⟨10, true, [[0, 2, 3, 7], [1, 2, 3, 7], [1, 5, 6, 7], [4, 5, 6, 7], [0, 2, 3, 8], [1, 2, 3, 8], [1, 5, 6, 8], [4, 5, 6, 8]], [[0, 1, 4, 9], [2, 5], [3, 6], [7, 8]], [[2], [2, 5], [3], [7, 8], [5], [6], [7, 8], [], [], []], [[2, 6, 8, 8], [4, 8], [4, 8], [4, 8]], [[1, 1, 0, 0, 1, 1, 1, 1, 4, 4], [2, 5, 2, 2, 2, 2, 5, 5, 5, 5], [3, 6, 3, 3, 3, 3, 6, 6, 6, 6], [7, 8, 7, 7, 7, 7, 8, 8, 8, 8]]⟩
theorem d171Ok : tailOk d171 = true := by decide +kernel
noncomputable def d172 : Dat := ⟨10, false, [[1, 2, 3, 7]], [[0, 1, 4, 9], [2, 5, 6], [3, 8], [7]], [[], [2], [3, 8], [7], [5, 6], [8], [8], [], [], []], [[0, 1, 1, 1], [1, 1, 1], [1, 1], [1]], [[1, 1, 1], [2, 2, 2], [3, 3, 3], [7, 7, 7]]⟩
theorem d172Ok : tailOk d172 = true := by decide +kernel
noncomputable def d173 : Dat := ⟨10, true, [[0, 2, 3, 7], [1, 2, 3, 7], [1, 5, 6, 7], [4, 5, 6, 7], [0, 2, 3, 8], [1, 2, 3, 8], [1, 5, 6, 8], [4, 5, 6, 8]], [[0, 1, 4], [2, 5, 9], [3, 6], [7, 8]], [[2], [2, 5], [3], [7, 8], [5, 9], [6], [7, 8], [], [], []], [[2, 6, 8], [4, 8, 8], [4, 8], [4, 8]], [[1, 1, 0, 0, 1, 1, 1, 1, 4, 4], [2, 5, 2, 2, 2, 2, 5, 5, 5, 5], [3, 6, 3, 3, 3, 3, 6, 6, 6, 6], [7, 8, 7, 7, 7, 7, 8, 8, 8, 8]]⟩
theorem d173Ok : tailOk d173 = true := by decide +kernel
noncomputable def d174 : Dat := ⟨10, true, [[0, 2, 3, 7], [1, 2, 3, 7], [1, 5, 6, 7], [4, 5, 6, 7], [0, 2, 3, 8], [1, 2, 3, 8], [1, 5, 6, 8], [4, 5, 6, 8], [1, 5, 6, 9], [4, 5, 6, 9]], [[0, 1, 4], [2, 5], [3, 6], [7, 8, 9]], [[2], [2, 5], [3], [7, 8], [5], [6], [7, 8, 9], [], [], []], [[2, 7, 10], [4, 10], [4, 10], [4, 8, 10]], [[1, 1, 0, 0, 1, 1, 1, 1, 1, 4, 4, 4], [5, 5, 2, 2, 2, 2, 5, 5, 5, 5, 5, 5], [6, 6, 3, 3, 3, 3, 6, 6, 6, 6, 6, 6], [8, 8, 7, 7, 7, 7, 8, 8, 8, 8, 9, 9]]⟩
theorem d174Ok : tailOk d174 = true := by decide +kernel
noncomputable def d175 : Dat := ⟨10, false, [[1, 2, 3, 7]], [[0, 1, 4], [2, 5, 6, 9], [3, 8], [7]], [[], [2], [3, 8], [7], [5, 6, 9], [8], [8], [], [], []], [[0, 1, 1], [1, 1, 1, 1], [1, 1], [1]], [[1, 1, 1], [2, 2, 2], [3, 3, 3], [7, 7, 7]]⟩
theorem d175Ok : tailOk d175 = true := by decide +kernel
noncomputable def d176 : Dat := ⟨10, false, [[1, 2, 3, 7]], [[0, 1, 4], [2, 5, 6], [3, 8, 9], [7]], [[], [2], [3, 8], [7], [5, 6], [8, 9], [8, 9], [], [], []], [[0, 1, 1], [1, 1, 1], [1, 1, 1], [1]], [[1, 1, 1], [2, 2, 2], [3, 3, 3], [7, 7, 7]]⟩
theorem d176Ok : tailOk d176 = true := by decide +kernel
noncomputable def d177 : Dat := ⟨10, true, [[0, 2, 3, 8, 9], [1, 2, 3, 8, 9], [1, 5, 6, 8, 9], [4, 5, 6, 8, 9]], [[0, 1, 4], [2, 5], [3, 6], [7, 8], [9]], [[2], [2, 5], [3], [7, 8], [5], [6], [7, 8], [], [9], []], [[1, 3, 4], [2, 4], [2, 4], [0, 4], [4]], [[1, 1, 0, 1, 1, 4], [2, 5, 2, 2, 5, 5], [3, 6, 3, 3, 6, 6], [8, 8, 8, 8, 8, 8], [9, 9, 9, 9, 9, 9]]⟩
theorem d177Ok : tailOk d177 = true := by decide +kernel
noncomputable def d178 : Dat := ⟨10, false, [[1, 2, 3, 7]], [[0, 1, 4], [2, 5, 6], [3, 8, 9], [7]], [[], [2], [3, 8, 9], [7], [5, 6], [8, 9], [8, 9], [], [], []], [[0, 1, 1], [1, 1, 1], [1, 1, 1], [1]], [[1, 1, 1], [2, 2, 2], [3, 3, 3], [7, 7, 7]]⟩
theorem d178Ok : tailOk d178 = true := by decide +kernel
noncomputable def d179 : Dat := ⟨10, true, [[0, 2, 3, 7, 9], [1, 2, 3, 7, 9], [1, 5, 6, 7, 9], [4, 5, 6, 7, 9], [0, 2, 3, 8, 9], [1, 2, 3, 8, 9], [1, 5, 6, 8, 9], [4, 5, 6, 8, 9]], [[0, 1, 4], [2, 5], [3, 6], [7, 8], [9]], [[2], [2, 5], [3], [7, 8], [5], [6], [7, 8], [9], [9], []], [[2, 6, 8], [4, 8], [4, 8], [4, 8], [8]], [[1, 1, 0, 0, 1, 1, 1, 1, 4, 4], [2, 5, 2, 2, 2, 2, 5, 5, 5, 5], [3, 6, 3, 3, 3, 3, 6, 6, 6, 6], [7, 8, 7, 7, 7, 7, 8, 8, 8, 8], [9, 9, 9, 9, 9, 9, 9, 9, 9, 9]]⟩
theorem d179Ok : tailOk d179 = true := by decide +kernel
noncomputable def d180 : Dat := ⟨10, false, [[1, 2, 3, 7], [1, 2, 3, 9], [1, 2, 8, 9], [4, 5, 8, 9], [4, 6, 8, 9]], [[0, 1, 4], [2, 5, 6], [3, 8], [7, 9]], [[], [2], [3, 8], [7, 9], [5, 6], [8], [8], [], [9], []], [[0, 3, 5], [3, 4, 5], [2, 5], [1, 5]], [[1, 1, 1, 1, 1, 4, 4], [2, 2, 2, 2, 2, 5, 6], [8, 8, 3, 3, 8, 8, 8], [9, 9, 7, 9, 9, 9, 9]]⟩
theorem d180Ok : tailOk d180 = true := by decide +kernel
noncomputable def d181 : Dat := ⟨10, false, [[1, 2, 3, 7, 9]], [[0, 1, 4], [2, 5, 6], [3, 8], [7], [9]], [[], [2], [3, 8], [7], [5, 6], [8], [8], [9], [], []], [[0, 1, 1], [1, 1, 1], [1, 1], [1], [1]], [[1, 1, 1], [2, 2, 2], [3, 3, 3], [7, 7, 7], [9, 9, 9]]⟩
theorem d181Ok : tailOk d181 = true := by decide +kernel
noncomputable def d182 : Dat := ⟨10, true, [[0, 1, 2, 3, 7], [0, 1, 2, 3, 8]], [[0, 4, 9], [1, 5], [2, 6], [3], [7, 8]], [[1], [2], [3], [7, 8], [5], [6], [], [], [], []], [[2, 2, 2], [2, 2], [2, 2], [2], [1, 2]], [[0, 0, 0, 0], [1, 1, 1, 1], [2, 2, 2, 2], [3, 3, 3, 3], [7, 8, 7, 8]]⟩
theorem d182Ok : tailOk d182 = true := by decide +kernel
noncomputable def d183 : Dat := ⟨10, false, [[0, 3, 7], [1, 3, 7], [2, 3, 7], [4, 5, 7], [4, 6, 7], [4, 5, 8], [4, 6, 8]], [[0, 1, 2, 4, 9], [3, 5, 6], [7, 8]], [[3], [3], [3], [7], [5, 6], [7, 8], [7, 8], [], [], []], [[1, 2, 3, 7, 7], [3, 5, 7], [5, 7]], [[4, 4, 0, 1, 2, 4, 4, 4, 4], [5, 5, 3, 3, 3, 5, 5, 6, 6], [7, 7, 7, 7, 7, 7, 7, 8, 8]]⟩
theorem d183Ok : tailOk d183 = true := by decide +kernel
noncomputable def d184 : Dat := ⟨10, true, [[0, 1, 2, 3, 7], [0, 1, 2, 3, 8]], [[0, 4], [1, 5, 9], [2, 6], [3], [7, 8]], [[1], [2], [3], [7, 8], [5, 9], [6], [], [], [], []], [[2, 2], [2, 2, 2], [2, 2], [2], [1, 2]], [[0, 0, 0, 0], [1, 1, 1, 1], [2, 2, 2, 2], [3, 3, 3, 3], [7, 8, 7, 8]]⟩
theorem d184Ok : tailOk d184 = true := by decide +kernel
noncomputable def d185 : Dat := ⟨10, true, [[0, 1, 2, 3, 7], [0, 1, 2, 3, 8]], [[0, 4], [1, 5], [2, 6], [3, 9], [7, 8]], [[1], [2], [3], [7, 8], [5], [6], [9], [], [], []], [[2, 2], [2, 2], [2, 2], [2, 2], [1, 2]], [[0, 0, 0, 0], [1, 1, 1, 1], [2, 2, 2, 2], [3, 3, 3, 3], [7, 8, 7, 8]]⟩
theorem d185Ok : tailOk d185 = true := by decide +kernel
noncomputable def d186 : Dat := ⟨10, false, [[0, 3, 7], [1, 3, 7], [2, 3, 7], [4, 5, 7], [4, 6, 7], [4, 5, 8], [4, 6, 8]], [[0, 1, 2, 4], [3, 5, 6, 9], [7, 8]], [[3], [3], [3], [7], [5, 6, 9], [7, 8], [7, 8], [], [], []], [[1, 2, 3, 7], [3, 5, 7, 7], [5, 7]], [[4, 4, 0, 1, 2, 4, 4, 4, 4], [5, 5, 3, 3, 3, 5, 5, 6, 6], [7, 7, 7, 7, 7, 7, 7, 8, 8]]⟩
theorem d186Ok : tailOk d186 = true := by decide +kernel
noncomputable def d187 : Dat := ⟨10, true, [[0, 1, 2, 3, 7], [0, 1, 2, 3, 8]], [[0, 4], [1, 5], [2, 6], [3, 9], [7, 8]], [[1], [2], [3, 9], [7, 8], [5], [6], [9], [], [], []], [[2, 2], [2, 2], [2, 2], [2, 2], [1, 2]], [[0, 0, 0, 0], [1, 1, 1, 1], [2, 2, 2, 2], [3, 3, 3, 3], [7, 8, 7, 8]]⟩
theorem d187Ok : tailOk d187 = true := by decide +kernel
noncomputable def d188 : Dat := ⟨10, false, [[0, 3, 7], [1, 3, 7], [2, 3, 7], [4, 5, 7], [4, 6, 7], [4, 5, 8], [4, 6, 8], [4, 5, 9], [4, 6, 9]], [[0, 1, 2, 4], [3, 5, 6], [7, 8, 9]], [[3], [3], [3], [7], [5, 6], [7, 8, 9], [7, 8, 9], [], [], []], [[1, 2, 3, 9], [3, 6, 9], [5, 7, 9]], [[4, 4, 0, 1, 2, 4, 4, 4, 4, 4, 4], [5, 5, 3, 3, 3, 5, 5, 5, 6, 6, 6], [7, 7, 7, 7, 7, 7, 7, 8, 8, 9, 9]]⟩
theorem d188Ok : tailOk d188 = true := by decide +kernel
noncomputable def d189 : Dat := ⟨10, true, [[0, 1, 2, 3, 8, 9]], [[0, 4], [1, 5], [2, 6], [3], [7, 8], [9]], [[1], [2], [3], [7, 8], [5], [6], [], [], [9], []], [[1, 1], [1, 1], [1, 1], [1], [0, 1], [1]], [[0, 0, 0], [1, 1, 1], [2, 2, 2], [3, 3, 3], [8, 8, 8], [9, 9, 9]]⟩
theorem d189Ok : tailOk d189 = true := by decide +kernel
noncomputable def d190 : Dat := ⟨10, true, [[0, 1, 2, 3, 7, 9], [0, 1, 2, 3, 8, 9]], [[0, 4], [1, 5], [2, 6], [3], [7, 8], [9]], [[1], [2], [3], [7, 8], [5], [6], [], [9], [9], []], [[2, 2], [2, 2], [2, 2], [2], [1, 2], [2]], [[0, 0, 0, 0], [1, 1, 1, 1], [2, 2, 2, 2], [3, 3, 3, 3], [7, 8, 7, 8], [9, 9, 9, 9]]⟩
theorem d190Ok : tailOk d190 = true := by decide +kernel
noncomputable def d191 : Dat := ⟨10, false, [[4, 5, 8, 9], [4, 6, 8, 9]], [[0, 1, 2, 4], [3, 5, 6], [7, 8], [9]], [[3], [3], [3], [7], [5, 6], [7, 8], [7, 8], [], [9], []], [[0, 0, 0, 2], [0, 1, 2], [0, 2], [2]], [[4, 4, 4, 4], [5, 6, 5, 6], [8, 8, 8, 8], [9, 9, 9, 9]]⟩
theorem d191Ok : tailOk d191 = true := by decide +kernel
noncomputable def d192 : Dat := ⟨10, false, [[0, 3, 7, 9], [1, 3, 7, 9], [2, 3, 7, 9], [4, 5, 7, 9], [4, 6, 7, 9], [4, 5, 8, 9], [4, 6, 8, 9]], [[0, 1, 2, 4], [3, 5, 6], [7, 8], [9]], [[3], [3], [3], [7], [5, 6], [7, 8], [7, 8], [9], [9], []], [[1, 2, 3, 7], [3, 5, 7], [5, 7], [7]], [[4, 4, 0, 1, 2, 4, 4, 4, 4], [5, 5, 3, 3, 3, 5, 5, 6, 6], [7, 7, 7, 7, 7, 7, 7, 8, 8], [9, 9, 9, 9, 9, 9, 9, 9, 9]]⟩
theorem d192Ok : tailOk d192 = true := by decide +kernel
noncomputable def d193 : Dat := ⟨10, true, [[0, 1, 3, 7], [0, 2, 3, 7], [4, 5, 6, 7], [0, 1, 3, 8], [0, 2, 3, 8], [4, 5, 6, 8]], [[0, 4, 9], [1, 2, 5], [3, 6], [7, 8]], [[1, 2], [3], [3], [7, 8], [5], [6], [7, 8], [], [], []], [[4, 6, 6], [2, 4, 6], [4, 6], [3, 6]], [[0, 0, 0, 0, 0, 0, 4, 4], [2, 2, 1, 1, 2, 2, 5, 5], [3, 3, 3, 3, 3, 3, 6, 6], [7, 8, 7, 7, 7, 8, 8, 8]]⟩
theorem d193Ok : tailOk d193 = true := by decide +kernel
noncomputable def d194 : Dat := ⟨10, false, [[0, 1, 7], [0, 3, 7], [2, 3, 7], [4, 5, 7], [4, 6, 7], [4, 5, 8], [4, 6, 8]], [[0, 2, 4, 9], [1, 3, 5, 6], [7, 8]], [[1, 3], [7], [3], [7], [5, 6], [7, 8], [7, 8], [], [], []], [[2, 3, 7, 7], [1, 3, 5, 7], [5, 7]], [[4, 4, 0, 0, 2, 4, 4, 4, 4], [5, 5, 1, 3, 3, 5, 5, 6, 6], [7, 7, 7, 7, 7, 7, 7, 8, 8]]⟩
theorem d194Ok : tailOk d194 = true := by decide +kernel
noncomputable def d195 : Dat := ⟨10, true, [[0, 1, 3, 7], [0, 2, 3, 7], [4, 5, 6, 7], [0, 1, 3, 8], [0, 2, 3, 8], [4, 5, 6, 8]], [[0, 4], [1, 2, 5, 9], [3, 6], [7, 8]], [[1, 2], [3], [3], [7, 8], [5, 9], [6], [7, 8], [], [], []], [[4, 6], [2, 4, 6, 6], [4, 6], [3, 6]], [[0, 0, 0, 0, 0, 0, 4, 4], [2, 2, 1, 1, 2, 2, 5, 5], [3, 3, 3, 3, 3, 3, 6, 6], [7, 8, 7, 7, 7, 8, 8, 8]]⟩
theorem d195Ok : tailOk d195 = true := by decide +kernel
noncomputable def d196 : Dat := ⟨10, true, [[0, 1, 3, 7], [0, 2, 3, 7], [4, 5, 6, 7], [0, 1, 3, 8], [0, 2, 3, 8], [4, 5, 6, 8], [4, 5, 6, 9]], [[0, 4], [1, 2, 5], [3, 6], [7, 8, 9]], [[1, 2], [3], [3], [7, 8], [5], [6], [7, 8, 9], [], [], []], [[4, 7], [2, 4, 7], [4, 7], [3, 6, 7]], [[0, 0, 0, 0, 0, 0, 4, 4, 4], [2, 2, 1, 1, 2, 2, 5, 5, 5], [3, 3, 3, 3, 3, 3, 6, 6, 6], [8, 8, 7, 7, 7, 8, 8, 8, 9]]⟩
theorem d196Ok : tailOk d196 = true := by decide +kernel
noncomputable def d197 : Dat := ⟨10, false, [[0, 1, 7], [0, 3, 7], [2, 3, 7], [4, 5, 7], [4, 6, 7], [4, 5, 8], [4, 6, 8]], [[0, 2, 4], [1, 3, 5, 6, 9], [7, 8]], [[1, 3], [7], [3], [7], [5, 6, 9], [7, 8], [7, 8], [], [], []], [[2, 3, 7], [1, 3, 5, 7, 7], [5, 7]], [[4, 4, 0, 0, 2, 4, 4, 4, 4], [5, 5, 1, 3, 3, 5, 5, 6, 6], [7, 7, 7, 7, 7, 7, 7, 8, 8]]⟩
theorem d197Ok : tailOk d197 = true := by decide +kernel
noncomputable def d198 : Dat := ⟨10, false, [[0, 1, 7], [0, 3, 7], [2, 3, 7], [4, 5, 7], [4, 6, 7], [4, 5, 8], [4, 6, 8], [4, 5, 9], [4, 6, 9]], [[0, 2, 4], [1, 3, 5, 6], [7, 8, 9]], [[1, 3], [7], [3], [7], [5, 6], [7, 8, 9], [7, 8, 9], [], [], []], [[2, 3, 9], [1, 3, 6, 9], [5, 7, 9]], [[4, 4, 0, 0, 2, 4, 4, 4, 4, 4, 4], [5, 5, 1, 3, 3, 5, 5, 5, 6, 6, 6], [7, 7, 7, 7, 7, 7, 7, 8, 8, 9, 9]]⟩
theorem d198Ok : tailOk d198 = true := by decide +kernel
noncomputable def d199 : Dat := ⟨10, true, [[0, 1, 3, 8, 9], [0, 2, 3, 8, 9], [4, 5, 6, 8, 9]], [[0, 4], [1, 2, 5], [3, 6], [7, 8], [9]], [[1, 2], [3], [3], [7, 8], [5], [6], [7, 8], [], [9], []], [[2, 3], [1, 2, 3], [2, 3], [0, 3], [3]], [[0, 0, 0, 0, 4], [2, 2, 1, 2, 5], [3, 3, 3, 3, 6], [8, 8, 8, 8, 8], [9, 9, 9, 9, 9]]⟩
theorem d199Ok : tailOk d199 = true := by decide +kernel
noncomputable def d200 : Dat := ⟨10, true, [[0, 1, 3, 7, 9], [0, 2, 3, 7, 9], [4, 5, 6, 7, 9], [0, 1, 3, 8, 9], [0, 2, 3, 8, 9], [4, 5, 6, 8, 9]], [[0, 4], [1, 2, 5], [3, 6], [7, 8], [9]], [[1, 2], [3], [3], [7, 8], [5], [6], [7, 8], [9], [9], []], [[4, 6], [2, 4, 6], [4, 6], [3, 6], [6]], [[0, 0, 0, 0, 0, 0, 4, 4], [2, 2, 1, 1, 2, 2, 5, 5], [3, 3, 3, 3, 3, 3, 6, 6], [7, 8, 7, 7, 7, 8, 8, 8], [9, 9, 9, 9, 9, 9, 9, 9]]⟩
theorem d200Ok : tailOk d200 = true := by decide +kernel
noncomputable def d201 : Dat := ⟨10, false, [[4, 5, 8, 9], [4, 6, 8, 9]], [[0, 2, 4], [1, 3, 5, 6], [7, 8], [9]], [[1, 3], [7], [3], [7], [5, 6], [7, 8], [7, 8], [], [9], []], [[0, 0, 2], [0, 0, 1, 2], [0, 2], [2]], [[4, 4, 4, 4], [5, 6, 5, 6], [8, 8, 8, 8], [9, 9, 9, 9]]⟩
theorem d201Ok : tailOk d201 = true := by decide +kernel
noncomputable def d202 : Dat := ⟨10, false, [[0, 1, 7, 9], [0, 3, 7, 9], [2, 3, 7, 9], [4, 5, 7, 9], [4, 6, 7, 9], [4, 5, 8, 9], [4, 6, 8, 9]], [[0, 2, 4], [1, 3, 5, 6], [7, 8], [9]], [[1, 3], [7], [3], [7], [5, 6], [7, 8], [7, 8], [9], [9], []], [[2, 3, 7], [1, 3, 5, 7], [5, 7], [7]], [[4, 4, 0, 0, 2, 4, 4, 4, 4], [5, 5, 1, 3, 3, 5, 5, 6, 6], [7, 7, 7, 7, 7, 7, 7, 8, 8], [9, 9, 9, 9, 9, 9, 9, 9, 9]]⟩
theorem d202Ok : tailOk d202 = true := by decide +kernel
noncomputable def d203 : Dat := ⟨10, true, [[0, 2, 3, 7], [4, 5, 6, 7], [0, 2, 3, 8], [4, 5, 6, 8]], [[0, 4, 9], [1, 2, 5], [3, 6], [7, 8]], [[1, 2], [], [3], [7, 8], [5], [6], [7, 8], [], [], []], [[2, 4, 4], [0, 2, 4], [2, 4], [2, 4]], [[0, 4, 0, 0, 4, 4], [2, 5, 2, 2, 5, 5], [3, 6, 3, 3, 6, 6], [7, 8, 7, 7, 8, 8]]⟩
theorem d203Ok : tailOk d203 = true := by decide +kernel
noncomputable def d204 : Dat := ⟨10, false, [[0, 3, 7], [2, 3, 7], [4, 5, 7], [4, 6, 7], [4, 5, 8], [4, 6, 8]], [[0, 2, 4, 9], [1, 3, 5, 6], [7, 8]], [[1, 3], [], [3], [7], [5, 6], [7, 8], [7, 8], [], [], []], [[1, 2, 6, 6], [0, 2, 4, 6], [4, 6]], [[4, 4, 0, 2, 4, 4, 4, 4], [5, 5, 3, 3, 5, 5, 6, 6], [7, 7, 7, 7, 7, 7, 8, 8]]⟩
theorem d204Ok : tailOk d204 = true := by decide +kernel
noncomputable def d205 : Dat := ⟨10, true, [[0, 2, 3, 7], [4, 5, 6, 7], [0, 2, 3, 8], [4, 5, 6, 8]], [[0, 4], [1, 2, 5, 9], [3, 6], [7, 8]], [[1, 2], [], [3], [7, 8], [5, 9], [6], [7, 8], [], [], []], [[2, 4], [0, 2, 4, 4], [2, 4], [2, 4]], [[0, 4, 0, 0, 4, 4], [2, 5, 2, 2, 5, 5], [3, 6, 3, 3, 6, 6], [7, 8, 7, 7, 8, 8]]⟩
theorem d205Ok : tailOk d205 = true := by decide +kernel
noncomputable def d206 : Dat := ⟨10, true, [[0, 2, 3, 7], [4, 5, 6, 7], [0, 2, 3, 8], [4, 5, 6, 8], [4, 5, 6, 9]], [[0, 4], [1, 2, 5], [3, 6], [7, 8, 9]], [[1, 2], [], [3], [7, 8], [5], [6], [7, 8, 9], [], [], []], [[2, 5], [0, 2, 5], [2, 5], [2, 4, 5]], [[4, 4, 0, 0, 4, 4, 4], [5, 5, 2, 2, 5, 5, 5], [6, 6, 3, 3, 6, 6, 6], [8, 8, 7, 7, 8, 8, 9]]⟩
theorem d206Ok : tailOk d206 = true := by decide +kernel
noncomputable def d207 : Dat := ⟨10, false, [[0, 3, 7], [2, 3, 7], [4, 5, 7], [4, 6, 7], [4, 5, 8], [4, 6, 8]], [[0, 2, 4], [1, 3, 5, 6, 9], [7, 8]], [[1, 3], [], [3], [7], [5, 6, 9], [7, 8], [7, 8], [], [], []], [[1, 2, 6], [0, 2, 4, 6, 6], [4, 6]], [[4, 4, 0, 2, 4, 4, 4, 4], [5, 5, 3, 3, 5, 5, 6, 6], [7, 7, 7, 7, 7, 7, 8, 8]]⟩
theorem d207Ok : tailOk d207 = true := by decide +kernel
noncomputable def d208 : Dat := ⟨10, false, [[0, 3, 7], [2, 3, 7], [4, 5, 7], [4, 6, 7], [4, 5, 8], [4, 6, 8], [4, 5, 9], [4, 6, 9]], [[0, 2, 4], [1, 3, 5, 6], [7, 8, 9]], [[1, 3], [], [3], [7], [5, 6], [7, 8, 9], [7, 8, 9], [], [], []], [[1, 2, 8], [0, 2, 5, 8], [4, 6, 8]], [[4, 4, 0, 2, 4, 4, 4, 4, 4, 4], [5, 5, 3, 3, 5, 5, 5, 6, 6, 6], [7, 8, 7, 7, 7, 7, 8, 8, 9, 9]]⟩
theorem d208Ok : tailOk d208 = true := by decide +kernel
noncomputable def d209 : Dat := ⟨10, true, [[0, 2, 3, 8, 9], [4, 5, 6, 8, 9]], [[0, 4], [1, 2, 5], [3, 6], [7, 8], [9]], [[1, 2], [], [3], [7, 8], [5], [6], [7, 8], [], [9], []], [[1, 2], [0, 1, 2], [1, 2], [0, 2], [2]], [[0, 4, 0, 4], [2, 5, 2, 5], [3, 6, 3, 6], [8, 8, 8, 8], [9, 9, 9, 9]]⟩
theorem d209Ok : tailOk d209 = true := by decide +kernel
noncomputable def d210 : Dat := ⟨10, true, [[0, 2, 3, 7, 9], [4, 5, 6, 7, 9], [0, 2, 3, 8, 9], [4, 5, 6, 8, 9]], [[0, 4], [1, 2, 5], [3, 6], [7, 8], [9]], [[1, 2], [], [3], [7, 8], [5], [6], [7, 8], [9], [9], []], [[2, 4], [0, 2, 4], [2, 4], [2, 4], [4]], [[0, 4, 0, 0, 4, 4], [2, 5, 2, 2, 5, 5], [3, 6, 3, 3, 6, 6], [7, 8, 7, 7, 8, 8], [9, 9, 9, 9, 9, 9]]⟩
theorem d210Ok : tailOk d210 = true := by decide +kernel
noncomputable def d211 : Dat := ⟨10, false, [[4, 5, 8, 9], [4, 6, 8, 9]], [[0, 2, 4], [1, 3, 5, 6], [7, 8], [9]], [[1, 3], [], [3], [7], [5, 6], [7, 8], [7, 8], [], [9], []], [[0, 0, 2], [0, 0, 1, 2], [0, 2], [2]], [[4, 4, 4, 4], [5, 6, 5, 6], [8, 8, 8, 8], [9, 9, 9, 9]]⟩
theorem d211Ok : tailOk d211 = true := by decide +kernel
noncomputable def d212 : Dat := ⟨10, false, [[0, 3, 7, 9], [2, 3, 7, 9], [4, 5, 7, 9], [4, 6, 7, 9], [4, 5, 8, 9], [4, 6, 8, 9]], [[0, 2, 4], [1, 3, 5, 6], [7, 8], [9]], [[1, 3], [], [3], [7], [5, 6], [7, 8], [7, 8], [9], [9], []], [[1, 2, 6], [0, 2, 4, 6], [4, 6], [6]], [[4, 4, 0, 2, 4, 4, 4, 4], [5, 5, 3, 3, 5, 5, 6, 6], [7, 7, 7, 7, 7, 7, 8, 8], [9, 9, 9, 9, 9, 9, 9, 9]]⟩
theorem d212Ok : tailOk d212 = true := by decide +kernel
noncomputable def d213 : Dat := ⟨10, true, [[1, 4, 5, 6, 7], [1, 4, 5, 6, 8]], [[0, 1], [2, 4, 9], [3, 5], [6], [7, 8]], [[], [2, 4, 9], [3], [], [5], [6], [7, 8], [], [], []], [[0, 2], [0, 2, 2], [0, 2], [2], [1, 2]], [[1, 1, 1, 1], [4, 4, 4, 4], [5, 5, 5, 5], [6, 6, 6, 6], [7, 8, 7, 8]]⟩
theorem d213Ok : tailOk d213 = true := by decide +kernel
noncomputable def d214 : Dat := ⟨10, true, [[1, 4, 5, 6, 7], [1, 4, 5, 6, 8]], [[0, 1, 9], [2, 4], [3, 5], [6], [7, 8]], [[], [2, 4], [3], [], [5], [6], [7, 8], [], [], []], [[0, 2, 2], [0, 2], [0, 2], [2], [1, 2]], [[1, 1, 1, 1], [4, 4, 4, 4], [5, 5, 5, 5], [6, 6, 6, 6], [7, 8, 7, 8]]⟩
theorem d214Ok : tailOk d214 = true := by decide +kernel
noncomputable def d215 : Dat := ⟨10, true, [[1, 4, 5, 6, 7], [1, 4, 5, 6, 8]], [[0, 1], [2, 4], [3, 5, 9], [6], [7, 8]], [[], [2, 4], [3], [], [5, 9], [6], [7, 8], [], [], []], [[0, 2], [0, 2], [0, 2, 2], [2], [1, 2]], [[1, 1, 1, 1], [4, 4, 4, 4], [5, 5, 5, 5], [6, 6, 6, 6], [7, 8, 7, 8]]⟩
theorem d215Ok : tailOk d215 = true := by decide +kernel
noncomputable def d216 : Dat := ⟨10, true, [[1, 4, 5, 6, 7], [1, 4, 5, 6, 8], [1, 4, 5, 6, 9]], [[0, 1], [2, 4], [3, 5], [6], [7, 8, 9]], [[], [2, 4], [3], [], [5], [6], [7, 8, 9], [], [], []], [[0, 3], [0, 3], [0, 3], [3], [1, 2, 3]], [[1, 1, 1, 1, 1], [4, 4, 4, 4, 4], [5, 5, 5, 5, 5], [6, 6, 6, 6, 6], [8, 8, 7, 8, 9]]⟩
theorem d216Ok : tailOk d216 = true := by decide +kernel
noncomputable def d217 : Dat := ⟨10, true, [[1, 4, 5, 6, 8, 9]], [[0, 1], [2, 4], [3, 5], [6], [7, 8], [9]], [[], [2, 4], [3], [], [5], [6], [7, 8], [], [9], []], [[0, 1], [0, 1], [0, 1], [1], [0, 1], [1]], [[1, 1, 1], [4, 4, 4], [5, 5, 5], [6, 6, 6], [8, 8, 8], [9, 9, 9]]⟩
theorem d217Ok : tailOk d217 = true := by decide +kernel
noncomputable def d218 : Dat := ⟨10, true, [[1, 4, 5, 6, 7, 9], [1, 4, 5, 6, 8, 9]], [[0, 1], [2, 4], [3, 5], [6], [7, 8], [9]], [[], [2, 4], [3], [], [5], [6], [7, 8], [9], [9], []], [[0, 2], [0, 2], [0, 2], [2], [1, 2], [2]], [[1, 1, 1, 1], [4, 4, 4, 4], [5, 5, 5, 5], [6, 6, 6, 6], [7, 8, 7, 8], [9, 9, 9, 9]]⟩
theorem d218Ok : tailOk d218 = true := by decide +kernel
noncomputable def d219 : Dat := ⟨10, true, [[1, 2, 3, 7], [1, 5, 6, 7], [4, 5, 6, 7], [1, 2, 3, 8], [1, 5, 6, 8], [4, 5, 6, 8]], [[0, 1, 4, 9], [2, 5], [3, 6], [7, 8]], [[], [2, 5], [3], [7, 8], [5], [6], [7, 8], [], [], []], [[0, 4, 6, 6], [2, 6], [2, 6], [3, 6]], [[1, 1, 1, 1, 1, 1, 4, 4], [5, 5, 2, 2, 5, 5, 5, 5], [6, 6, 3, 3, 6, 6, 6, 6], [7, 8, 7, 7, 7, 8, 8, 8]]⟩
theorem d219Ok : tailOk d219 = true := by decide +kernel
noncomputable def d220 : Dat := ⟨10, true, [[1, 2, 3, 7], [1, 5, 6, 7], [4, 5, 6, 7], [1, 2, 3, 8], [1, 5, 6, 8], [4, 5, 6, 8]], [[0, 1, 4], [2, 5, 9], [3, 6], [7, 8]], [[], [2, 5], [3], [7, 8], [5, 9], [6], [7, 8], [], [], []], [[0, 4, 6], [2, 6, 6], [2, 6], [3, 6]], [[1, 1, 1, 1, 1, 1, 4, 4], [5, 5, 2, 2, 5, 5, 5, 5], [6, 6, 3, 3, 6, 6, 6, 6], [7, 8, 7, 7, 7, 8, 8, 8]]⟩
theorem d220Ok : tailOk d220 = true := by decide +kernel
noncomputable def d221 : Dat := ⟨10, true, [[1, 2, 3, 7], [1, 5, 6, 7], [4, 5, 6, 7], [1, 2, 3, 8], [1, 5, 6, 8], [4, 5, 6, 8], [1, 5, 6, 9], [4, 5, 6, 9]], [[0, 1, 4], [2, 5], [3, 6], [7, 8, 9]], [[], [2, 5], [3], [7, 8], [5], [6], [7, 8, 9], [], [], []], [[0, 5, 8], [2, 8], [2, 8], [3, 6, 8]], [[1, 1, 1, 1, 1, 1, 1, 4, 4, 4], [5, 5, 2, 2, 5, 5, 5, 5, 5, 5], [6, 6, 3, 3, 6, 6, 6, 6, 6, 6], [8, 8, 7, 7, 7, 8, 8, 8, 9, 9]]⟩
theorem d221Ok : tailOk d221 = true := by decide +kernel
noncomputable def d222 : Dat := ⟨10, true, [[1, 2, 3, 8, 9], [1, 5, 6, 8, 9], [4, 5, 6, 8, 9]], [[0, 1, 4], [2, 5], [3, 6], [7, 8], [9]], [[], [2, 5], [3], [7, 8], [5], [6], [7, 8], [], [9], []], [[0, 2, 3], [1, 3], [1, 3], [0, 3], [3]], [[1, 1, 1, 1, 4], [5, 5, 2, 5, 5], [6, 6, 3, 6, 6], [8, 8, 8, 8, 8], [9, 9, 9, 9, 9]]⟩
theorem d222Ok : tailOk d222 = true := by decide +kernel
noncomputable def d223 : Dat := ⟨10, true, [[1, 2, 3, 7, 9], [1, 5, 6, 7, 9], [4, 5, 6, 7, 9], [1, 2, 3, 8, 9], [1, 5, 6, 8, 9], [4, 5, 6, 8, 9]], [[0, 1, 4], [2, 5], [3, 6], [7, 8], [9]], [[], [2, 5], [3], [7, 8], [5], [6], [7, 8], [9], [9], []], [[0, 4, 6], [2, 6], [2, 6], [3, 6], [6]], [[1, 1, 1, 1, 1, 1, 4, 4], [5, 5, 2, 2, 5, 5, 5, 5], [6, 6, 3, 3, 6, 6, 6, 6], [7, 8, 7, 7, 7, 8, 8, 8], [9, 9, 9, 9, 9, 9, 9, 9]]⟩
theorem d223Ok : tailOk d223 = true := by decide +kernel
noncomputable def d224 : Dat := ⟨10, true, [[1, 2, 3, 7], [4, 5, 6, 7], [1, 2, 3, 8], [4, 5, 6, 8]], [[0, 1, 4, 9], [2, 5], [3, 6], [7, 8]], [[], [2], [3], [7, 8], [5], [6], [7, 8], [], [], []], [[0, 2, 4, 4], [2, 4], [2, 4], [2, 4]], [[1, 4, 1, 1, 4, 4], [2, 5, 2, 2, 5, 5], [3, 6, 3, 3, 6, 6], [7, 8, 7, 7, 8, 8]]⟩
theorem d224Ok : tailOk d224 = true := by decide +kernel
noncomputable def d225 : Dat := ⟨10, false, [[1, 3, 7], [2, 3, 7], [4, 5, 7], [4, 6, 7], [4, 5, 8], [4, 6, 8]], [[0, 1, 2, 4, 9], [3, 5, 6], [7, 8]], [[], [3], [3], [7], [5, 6], [7, 8], [7, 8], [], [], []], [[0, 1, 2, 6, 6], [2, 4, 6], [4, 6]], [[4, 4, 1, 2, 4, 4, 4, 4], [5, 5, 3, 3, 5, 5, 6, 6], [7, 7, 7, 7, 7, 7, 8, 8]]⟩
theorem d225Ok : tailOk d225 = true := by decide +kernel
noncomputable def d226 : Dat := ⟨10, true, [[1, 2, 3, 7], [4, 5, 6, 7], [1, 2, 3, 8], [4, 5, 6, 8]], [[0, 1, 4], [2, 5, 9], [3, 6], [7, 8]], [[], [2], [3], [7, 8], [5, 9], [6], [7, 8], [], [], []], [[0, 2, 4], [2, 4, 4], [2, 4], [2, 4]], [[1, 4, 1, 1, 4, 4], [2, 5, 2, 2, 5, 5], [3, 6, 3, 3, 6, 6], [7, 8, 7, 7, 8, 8]]⟩
theorem d226Ok : tailOk d226 = true := by decide +kernel
noncomputable def d227 : Dat := ⟨10, true, [[1, 2, 3, 7], [4, 5, 6, 7], [1, 2, 3, 8], [4, 5, 6, 8], [4, 5, 6, 9]], [[0, 1, 4], [2, 5], [3, 6], [7, 8, 9]], [[], [2], [3], [7, 8], [5], [6], [7, 8, 9], [], [], []], [[0, 2, 5], [2, 5], [2, 5], [2, 4, 5]], [[4, 4, 1, 1, 4, 4, 4], [5, 5, 2, 2, 5, 5, 5], [6, 6, 3, 3, 6, 6, 6], [8, 8, 7, 7, 8, 8, 9]]⟩
theorem d227Ok : tailOk d227 = true := by decide +kernel
noncomputable def d228 : Dat := ⟨10, false, [[1, 3, 7], [2, 3, 7], [4, 5, 7], [4, 6, 7], [4, 5, 8], [4, 6, 8]], [[0, 1, 2, 4], [3, 5, 6, 9], [7, 8]], [[], [3], [3], [7], [5, 6, 9], [7, 8], [7, 8], [], [], []], [[0, 1, 2, 6], [2, 4, 6, 6], [4, 6]], [[4, 4, 1, 2, 4, 4, 4, 4], [5, 5, 3, 3, 5, 5, 6, 6], [7, 7, 7, 7, 7, 7, 8, 8]]⟩
theorem d228Ok : tailOk d228 = true := by decide +kernel
noncomputable def d229 : Dat := ⟨10, false, [[1, 3, 7], [2, 3, 7], [4, 5, 7], [4, 6, 7], [4, 5, 8], [4, 6, 8], [4, 5, 9], [4, 6, 9]], [[0, 1, 2, 4], [3, 5, 6], [7, 8, 9]], [[], [3], [3], [7], [5, 6], [7, 8, 9], [7, 8, 9], [], [], []], [[0, 1, 2, 8], [2, 5, 8], [4, 6, 8]], [[4, 4, 1, 2, 4, 4, 4, 4, 4, 4], [5, 5, 3, 3, 5, 5, 5, 6, 6, 6], [7, 8, 7, 7, 7, 7, 8, 8, 9, 9]]⟩
theorem d229Ok : tailOk d229 = true := by decide +kernel
noncomputable def d230 : Dat := ⟨10, true, [[1, 2, 3, 8, 9], [4, 5, 6, 8, 9]], [[0, 1, 4], [2, 5], [3, 6], [7, 8], [9]], [[], [2], [3], [7, 8], [5], [6], [7, 8], [], [9], []], [[0, 1, 2], [1, 2], [1, 2], [0, 2], [2]], [[1, 4, 1, 4], [2, 5, 2, 5], [3, 6, 3, 6], [8, 8, 8, 8], [9, 9, 9, 9]]⟩
theorem d230Ok : tailOk d230 = true := by decide +kernel
noncomputable def d231 : Dat := ⟨10, true, [[1, 2, 3, 7, 9], [4, 5, 6, 7, 9], [1, 2, 3, 8, 9], [4, 5, 6, 8, 9]], [[0, 1, 4], [2, 5], [3, 6], [7, 8], [9]], [[], [2], [3], [7, 8], [5], [6], [7, 8], [9], [9], []], [[0, 2, 4], [2, 4], [2, 4], [2, 4], [4]], [[1, 4, 1, 1, 4, 4], [2, 5, 2, 2, 5, 5], [3, 6, 3, 3, 6, 6], [7, 8, 7, 7, 8, 8], [9, 9, 9, 9, 9, 9]]⟩
theorem d231Ok : tailOk d231 = true := by decide +kernel
noncomputable def d232 : Dat := ⟨10, false, [[4, 5, 8, 9], [4, 6, 8, 9]], [[0, 1, 2, 4], [3, 5, 6], [7, 8], [9]], [[], [3], [3], [7], [5, 6], [7, 8], [7, 8], [], [9], []], [[0, 0, 0, 2], [0, 1, 2], [0, 2], [2]], [[4, 4, 4, 4], [5, 6, 5, 6], [8, 8, 8, 8], [9, 9, 9, 9]]⟩
theorem d232Ok : tailOk d232 = true := by decide +kernel
noncomputable def d233 : Dat := ⟨10, false, [[1, 3, 7, 9], [2, 3, 7, 9], [4, 5, 7, 9], [4, 6, 7, 9], [4, 5, 8, 9], [4, 6, 8, 9]], [[0, 1, 2, 4], [3, 5, 6], [7, 8], [9]], [[], [3], [3], [7], [5, 6], [7, 8], [7, 8], [9], [9], []], [[0, 1, 2, 6], [2, 4, 6], [4, 6], [6]], [[4, 4, 1, 2, 4, 4, 4, 4], [5, 5, 3, 3, 5, 5, 6, 6], [7, 7, 7, 7, 7, 7, 8, 8], [9, 9, 9, 9, 9, 9, 9, 9]]⟩
theorem d233Ok : tailOk d233 = true := by decide +kernel
noncomputable def d234 : Dat := ⟨10, true, [[0, 1, 3, 7], [4, 5, 6, 7], [0, 1, 3, 8], [4, 5, 6, 8]], [[0, 2, 4, 9], [1, 5], [3, 6], [7, 8]], [[1], [3], [], [7, 8], [5], [6], [7, 8], [], [], []], [[2, 2, 4, 4], [2, 4], [2, 4], [2, 4]], [[0, 4, 0, 0, 4, 4], [1, 5, 1, 1, 5, 5], [3, 6, 3, 3, 6, 6], [7, 8, 7, 7, 8, 8]]⟩
theorem d234Ok : tailOk d234 = true := by decide +kernel
noncomputable def d235 : Dat := ⟨10, false, [[2, 3, 7], [4, 5, 7], [4, 6, 7], [4, 5, 8], [4, 6, 8]], [[0, 1, 2, 4, 9], [3, 5, 6], [7, 8]], [[], [], [3], [7], [5, 6], [7, 8], [7, 8], [], [], []], [[0, 0, 1, 5, 5], [1, 3, 5], [3, 5]], [[4, 4, 2, 4, 4, 4, 4], [5, 5, 3, 5, 5, 6, 6], [7, 7, 7, 7, 7, 8, 8]]⟩
theorem d235Ok : tailOk d235 = true := by decide +kernel
noncomputable def d236 : Dat := ⟨10, true, [[0, 1, 3, 7], [4, 5, 6, 7], [0, 1, 3, 8], [4, 5, 6, 8]], [[0, 2, 4], [1, 5, 9], [3, 6], [7, 8]], [[1], [3], [], [7, 8], [5, 9], [6], [7, 8], [], [], []], [[2, 2, 4], [2, 4, 4], [2, 4], [2, 4]], [[0, 4, 0, 0, 4, 4], [1, 5, 1, 1, 5, 5], [3, 6, 3, 3, 6, 6], [7, 8, 7, 7, 8, 8]]⟩
theorem d236Ok : tailOk d236 = true := by decide +kernel
noncomputable def d237 : Dat := ⟨10, true, [[0, 1, 3, 7], [4, 5, 6, 7], [0, 1, 3, 8], [4, 5, 6, 8], [4, 5, 6, 9]], [[0, 2, 4], [1, 5], [3, 6], [7, 8, 9]], [[1], [3], [], [7, 8], [5], [6], [7, 8, 9], [], [], []], [[2, 2, 5], [2, 5], [2, 5], [2, 4, 5]], [[4, 4, 0, 0, 4, 4, 4], [5, 5, 1, 1, 5, 5, 5], [6, 6, 3, 3, 6, 6, 6], [8, 8, 7, 7, 8, 8, 9]]⟩
theorem d237Ok : tailOk d237 = true := by decide +kernel
noncomputable def d238 : Dat := ⟨10, false, [[2, 3, 7], [4, 5, 7], [4, 6, 7], [4, 5, 8], [4, 6, 8]], [[0, 1, 2, 4], [3, 5, 6, 9], [7, 8]], [[], [], [3], [7], [5, 6, 9], [7, 8], [7, 8], [], [], []], [[0, 0, 1, 5], [1, 3, 5, 5], [3, 5]], [[4, 4, 2, 4, 4, 4, 4], [5, 5, 3, 5, 5, 6, 6], [7, 7, 7, 7, 7, 8, 8]]⟩
theorem d238Ok : tailOk d238 = true := by decide +kernel
noncomputable def d239 : Dat := ⟨10, false, [[2, 3, 7], [4, 5, 7], [4, 6, 7], [4, 5, 8], [4, 6, 8], [4, 5, 9], [4, 6, 9]], [[0, 1, 2, 4], [3, 5, 6], [7, 8, 9]], [[], [], [3], [7], [5, 6], [7, 8, 9], [7, 8, 9], [], [], []], [[0, 0, 1, 7], [1, 4, 7], [3, 5, 7]], [[4, 4, 2, 4, 4, 4, 4, 4, 4], [5, 5, 3, 5, 5, 5, 6, 6, 6], [8, 8, 7, 7, 7, 8, 8, 9, 9]]⟩
theorem d239Ok : tailOk d239 = true := by decide +kernel
noncomputable def d240 : Dat := ⟨10, true, [[0, 1, 3, 8, 9], [4, 5, 6, 8, 9]], [[0, 2, 4], [1, 5], [3, 6], [7, 8], [9]], [[1], [3], [], [7, 8], [5], [6], [7, 8], [], [9], []], [[1, 1, 2], [1, 2], [1, 2], [0, 2], [2]], [[0, 4, 0, 4], [1, 5, 1, 5], [3, 6, 3, 6], [8, 8, 8, 8], [9, 9, 9, 9]]⟩
theorem d240Ok : tailOk d240 = true := by decide +kernel
noncomputable def d241 : Dat := ⟨10, true, [[0, 1, 3, 7, 9], [4, 5, 6, 7, 9], [0, 1, 3, 8, 9], [4, 5, 6, 8, 9]], [[0, 2, 4], [1, 5], [3, 6], [7, 8], [9]], [[1], [3], [], [7, 8], [5], [6], [7, 8], [9], [9], []], [[2, 2, 4], [2, 4], [2, 4], [2, 4], [4]], [[0, 4, 0, 0, 4, 4], [1, 5, 1, 1, 5, 5], [3, 6, 3, 3, 6, 6], [7, 8, 7, 7, 8, 8], [9, 9, 9, 9, 9, 9]]⟩
theorem d241Ok : tailOk d241 = true := by decide +kernel
noncomputable def d242 : Dat := ⟨10, false, [[4, 5, 8, 9], [4, 6, 8, 9]], [[0, 1, 2, 4], [3, 5, 6], [7, 8], [9]], [[], [], [3], [7], [5, 6], [7, 8], [7, 8], [], [9], []], [[0, 0, 0, 2], [0, 1, 2], [0, 2], [2]], [[4, 4, 4, 4], [5, 6, 5, 6], [8, 8, 8, 8], [9, 9, 9, 9]]⟩
theorem d242Ok : tailOk d242 = true := by decide +kernel
noncomputable def d243 : Dat := ⟨10, false, [[2, 3, 7, 9], [4, 5, 7, 9], [4, 6, 7, 9], [4, 5, 8, 9], [4, 6, 8, 9]], [[0, 1, 2, 4], [3, 5, 6], [7, 8], [9]], [[], [], [3], [7], [5, 6], [7, 8], [7, 8], [9], [9], []], [[0, 0, 1, 5], [1, 3, 5], [3, 5], [5]], [[4, 4, 2, 4, 4, 4, 4], [5, 5, 3, 5, 5, 6, 6], [7, 7, 7, 7, 7, 8, 8], [9, 9, 9, 9, 9, 9, 9]]⟩
theorem d243Ok : tailOk d243 = true := by decide +kernel
noncomputable def d244 : Dat := ⟨10, true, [[4, 5, 6, 7], [4, 5, 6, 8]], [[0, 2, 4, 9], [1, 3, 5], [6], [7, 8]], [[1, 3], [], [3], [], [5], [6], [7, 8], [], [], []], [[0, 0, 2, 2], [0, 0, 2], [2], [1, 2]], [[4, 4, 4, 4], [5, 5, 5, 5], [6, 6, 6, 6], [7, 8, 7, 8]]⟩
theorem d244Ok : tailOk d244 = true := by decide +kernel
noncomputable def d245 : Dat := ⟨10, false, [[2, 3, 7], [4, 5, 7], [4, 6, 7], [4, 5, 8], [4, 6, 8]], [[0, 2, 4, 9], [1, 3, 5, 6], [7, 8]], [[1], [], [3], [7], [5, 6], [7, 8], [7, 8], [], [], []], [[0, 1, 5, 5], [0, 1, 3, 5], [3, 5]], [[4, 4, 2, 4, 4, 4, 4], [5, 5, 3, 5, 5, 6, 6], [7, 7, 7, 7, 7, 8, 8]]⟩
theorem d245Ok : tailOk d245 = true := by decide +kernel
noncomputable def d246 : Dat := ⟨10, true, [[4, 5, 6, 7], [4, 5, 6, 8]], [[0, 2, 4], [1, 3, 5, 9], [6], [7, 8]], [[1, 3], [], [3], [], [5, 9], [6], [7, 8], [], [], []], [[0, 0, 2], [0, 0, 2, 2], [2], [1, 2]], [[4, 4, 4, 4], [5, 5, 5, 5], [6, 6, 6, 6], [7, 8, 7, 8]]⟩
theorem d246Ok : tailOk d246 = true := by decide +kernel
noncomputable def d247 : Dat := ⟨10, true, [[4, 5, 6, 7], [4, 5, 6, 8], [4, 5, 6, 9]], [[0, 2, 4], [1, 3, 5], [6], [7, 8, 9]], [[1, 3], [], [3], [], [5], [6], [7, 8, 9], [], [], []], [[0, 0, 3], [0, 0, 3], [3], [1, 2, 3]], [[4, 4, 4, 4, 4], [5, 5, 5, 5, 5], [6, 6, 6, 6, 6], [8, 8, 7, 8, 9]]⟩
theorem d247Ok : tailOk d247 = true := by decide +kernel
noncomputable def d248 : Dat := ⟨10, false, [[2, 3, 7], [4, 5, 7], [4, 6, 7], [4, 5, 8], [4, 6, 8]], [[0, 2, 4], [1, 3, 5, 6, 9], [7, 8]], [[1], [], [3], [7], [5, 6, 9], [7, 8], [7, 8], [], [], []], [[0, 1, 5], [0, 1, 3, 5, 5], [3, 5]], [[4, 4, 2, 4, 4, 4, 4], [5, 5, 3, 5, 5, 6, 6], [7, 7, 7, 7, 7, 8, 8]]⟩
theorem d248Ok : tailOk d248 = true := by decide +kernel
noncomputable def d249 : Dat := ⟨10, false, [[2, 3, 7], [4, 5, 7], [4, 6, 7], [4, 5, 8], [4, 6, 8], [4, 5, 9], [4, 6, 9]], [[0, 2, 4], [1, 3, 5, 6], [7, 8, 9]], [[1], [], [3], [7], [5, 6], [7, 8, 9], [7, 8, 9], [], [], []], [[0, 1, 7], [0, 1, 4, 7], [3, 5, 7]], [[4, 4, 2, 4, 4, 4, 4, 4, 4], [5, 5, 3, 5, 5, 5, 6, 6, 6], [8, 8, 7, 7, 7, 8, 8, 9, 9]]⟩
theorem d249Ok : tailOk d249 = true := by decide +kernel
noncomputable def d250 : Dat := ⟨10, true, [[4, 5, 6, 8, 9]], [[0, 2, 4], [1, 3, 5], [6], [7, 8], [9]], [[1, 3], [], [3], [], [5], [6], [7, 8], [], [9], []], [[0, 0, 1], [0, 0, 1], [1], [0, 1], [1]], [[4, 4, 4], [5, 5, 5], [6, 6, 6], [8, 8, 8], [9, 9, 9]]⟩
theorem d250Ok : tailOk d250 = true := by decide +kernel
noncomputable def d251 : Dat := ⟨10, true, [[4, 5, 6, 7, 9], [4, 5, 6, 8, 9]], [[0, 2, 4], [1, 3, 5], [6], [7, 8], [9]], [[1, 3], [], [3], [], [5], [6], [7, 8], [9], [9], []], [[0, 0, 2], [0, 0, 2], [2], [1, 2], [2]], [[4, 4, 4, 4], [5, 5, 5, 5], [6, 6, 6, 6], [7, 8, 7, 8], [9, 9, 9, 9]]⟩
theorem d251Ok : tailOk d251 = true := by decide +kernel
noncomputable def d252 : Dat := ⟨10, false, [[4, 5, 8, 9], [4, 6, 8, 9]], [[0, 2, 4], [1, 3, 5, 6], [7, 8], [9]], [[1], [], [3], [7], [5, 6], [7, 8], [7, 8], [], [9], []], [[0, 0, 2], [0, 0, 1, 2], [0, 2], [2]], [[4, 4, 4, 4], [5, 6, 5, 6], [8, 8, 8, 8], [9, 9, 9, 9]]⟩
theorem d252Ok : tailOk d252 = true := by decide +kernel
noncomputable def d253 : Dat := ⟨10, false, [[2, 3, 7, 9], [4, 5, 7, 9], [4, 6, 7, 9], [4, 5, 8, 9], [4, 6, 8, 9]], [[0, 2, 4], [1, 3, 5, 6], [7, 8], [9]], [[1], [], [3], [7], [5, 6], [7, 8], [7, 8], [9], [9], []], [[0, 1, 5], [0, 1, 3, 5], [3, 5], [5]], [[4, 4, 2, 4, 4, 4, 4], [5, 5, 3, 5, 5, 6, 6], [7, 7, 7, 7, 7, 8, 8], [9, 9, 9, 9, 9, 9, 9]]⟩
theorem d253Ok : tailOk d253 = true := by decide +kernel
noncomputable def d254 : Dat := ⟨10, true, [[4, 5, 6, 7], [4, 5, 6, 8]], [[0, 1, 2, 4, 9], [3, 5], [6], [7, 8]], [[], [3], [3], [], [5], [6], [7, 8], [], [], []], [[0, 0, 0, 2, 2], [0, 2], [2], [1, 2]], [[4, 4, 4, 4], [5, 5, 5, 5], [6, 6, 6, 6], [7, 8, 7, 8]]⟩
theorem d254Ok : tailOk d254 = true := by decide +kernel
noncomputable def d255 : Dat := ⟨10, true, [[4, 5, 6, 7], [4, 5, 6, 8]], [[0, 1, 2, 4], [3, 5, 9], [6], [7, 8]], [[], [3], [3], [], [5, 9], [6], [7, 8], [], [], []], [[0, 0, 0, 2], [0, 2, 2], [2], [1, 2]], [[4, 4, 4, 4], [5, 5, 5, 5], [6, 6, 6, 6], [7, 8, 7, 8]]⟩
theorem d255Ok : tailOk d255 = true := by decide +kernel
noncomputable def d256 : Dat := ⟨10, true, [[4, 5, 6, 7], [4, 5, 6, 8], [4, 5, 6, 9]], [[0, 1, 2, 4], [3, 5], [6], [7, 8, 9]], [[], [3], [3], [], [5], [6], [7, 8, 9], [], [], []], [[0, 0, 0, 3], [0, 3], [3], [1, 2, 3]], [[4, 4, 4, 4, 4], [5, 5, 5, 5, 5], [6, 6, 6, 6, 6], [8, 8, 7, 8, 9]]⟩
theorem d256Ok : tailOk d256 = true := by decide +kernel
noncomputable def d257 : Dat := ⟨10, true, [[4, 5, 6, 8, 9]], [[0, 1, 2, 4], [3, 5], [6], [7, 8], [9]], [[], [3], [3], [], [5], [6], [7, 8], [], [9], []], [[0, 0, 0, 1], [0, 1], [1], [0, 1], [1]], [[4, 4, 4], [5, 5, 5], [6, 6, 6], [8, 8, 8], [9, 9, 9]]⟩
theorem d257Ok : tailOk d257 = true := by decide +kernel
noncomputable def d258 : Dat := ⟨10, true, [[4, 5, 6, 7, 9], [4, 5, 6, 8, 9]], [[0, 1, 2, 4], [3, 5], [6], [7, 8], [9]], [[], [3], [3], [], [5], [6], [7, 8], [9], [9], []], [[0, 0, 0, 2], [0, 2], [2], [1, 2], [2]], [[4, 4, 4, 4], [5, 5, 5, 5], [6, 6, 6, 6], [7, 8, 7, 8], [9, 9, 9, 9]]⟩
theorem d258Ok : tailOk d258 = true := by decide +kernel
noncomputable def d259 : Dat := ⟨10, true, [[4, 5, 6, 7], [4, 5, 6, 8]], [[0, 2, 4, 9], [1, 3, 5], [6], [7, 8]], [[1], [], [3], [], [5], [6], [7, 8], [], [], []], [[0, 0, 2, 2], [0, 0, 2], [2], [1, 2]], [[4, 4, 4, 4], [5, 5, 5, 5], [6, 6, 6, 6], [7, 8, 7, 8]]⟩
theorem d259Ok : tailOk d259 = true := by decide +kernel
noncomputable def d260 : Dat := ⟨10, true, [[4, 5, 6, 7], [4, 5, 6, 8]], [[0, 2, 4], [1, 3, 5, 9], [6], [7, 8]], [[1], [], [3], [], [5, 9], [6], [7, 8], [], [], []], [[0, 0, 2], [0, 0, 2, 2], [2], [1, 2]], [[4, 4, 4, 4], [5, 5, 5, 5], [6, 6, 6, 6], [7, 8, 7, 8]]⟩
theorem d260Ok : tailOk d260 = true := by decide +kernel
noncomputable def d261 : Dat := ⟨10, true, [[4, 5, 6, 7], [4, 5, 6, 8], [4, 5, 6, 9]], [[0, 2, 4], [1, 3, 5], [6], [7, 8, 9]], [[1], [], [3], [], [5], [6], [7, 8, 9], [], [], []], [[0, 0, 3], [0, 0, 3], [3], [1, 2, 3]], [[4, 4, 4, 4, 4], [5, 5, 5, 5, 5], [6, 6, 6, 6, 6], [8, 8, 7, 8, 9]]⟩
theorem d261Ok : tailOk d261 = true := by decide +kernel
noncomputable def d262 : Dat := ⟨10, true, [[4, 5, 6, 8, 9]], [[0, 2, 4], [1, 3, 5], [6], [7, 8], [9]], [[1], [], [3], [], [5], [6], [7, 8], [], [9], []], [[0, 0, 1], [0, 0, 1], [1], [0, 1], [1]], [[4, 4, 4], [5, 5, 5], [6, 6, 6], [8, 8, 8], [9, 9, 9]]⟩
theorem d262Ok : tailOk d262 = true := by decide +kernel
noncomputable def d263 : Dat := ⟨10, true, [[4, 5, 6, 7, 9], [4, 5, 6, 8, 9]], [[0, 2, 4], [1, 3, 5], [6], [7, 8], [9]], [[1], [], [3], [], [5], [6], [7, 8], [9], [9], []], [[0, 0, 2], [0, 0, 2], [2], [1, 2], [2]], [[4, 4, 4, 4], [5, 5, 5, 5], [6, 6, 6, 6], [7, 8, 7, 8], [9, 9, 9, 9]]⟩
theorem d263Ok : tailOk d263 = true := by decide +kernel
noncomputable def d264 : Dat := ⟨10, true, [[4, 5, 6, 7], [4, 5, 6, 8]], [[0, 1, 2, 4, 9], [3, 5], [6], [7, 8]], [[], [], [3], [], [5], [6], [7, 8], [], [], []], [[0, 0, 0, 2, 2], [0, 2], [2], [1, 2]], [[4, 4, 4, 4], [5, 5, 5, 5], [6, 6, 6, 6], [7, 8, 7, 8]]⟩
theorem d264Ok : tailOk d264 = true := by decide +kernel
noncomputable def d265 : Dat := ⟨10, true, [[4, 5, 6, 7], [4, 5, 6, 8]], [[0, 1, 2, 4], [3, 5, 9], [6], [7, 8]], [[], [], [3], [], [5, 9], [6], [7, 8], [], [], []], [[0, 0, 0, 2], [0, 2, 2], [2], [1, 2]], [[4, 4, 4, 4], [5, 5, 5, 5], [6, 6, 6, 6], [7, 8, 7, 8]]⟩
theorem d265Ok : tailOk d265 = true := by decide +kernel
noncomputable def d266 : Dat := ⟨10, true, [[4, 5, 6, 7], [4, 5, 6, 8], [4, 5, 6, 9]], [[0, 1, 2, 4], [3, 5], [6], [7, 8, 9]], [[], [], [3], [], [5], [6], [7, 8, 9], [], [], []], [[0, 0, 0, 3], [0, 3], [3], [1, 2, 3]], [[4, 4, 4, 4, 4], [5, 5, 5, 5, 5], [6, 6, 6, 6, 6], [8, 8, 7, 8, 9]]⟩
theorem d266Ok : tailOk d266 = true := by decide +kernel
noncomputable def d267 : Dat := ⟨10, true, [[4, 5, 6, 8, 9]], [[0, 1, 2, 4], [3, 5], [6], [7, 8], [9]], [[], [], [3], [], [5], [6], [7, 8], [], [9], []], [[0, 0, 0, 1], [0, 1], [1], [0, 1], [1]], [[4, 4, 4], [5, 5, 5], [6, 6, 6], [8, 8, 8], [9, 9, 9]]⟩
theorem d267Ok : tailOk d267 = true := by decide +kernel
noncomputable def d268 : Dat := ⟨10, true, [[4, 5, 6, 7, 9], [4, 5, 6, 8, 9]], [[0, 1, 2, 4], [3, 5], [6], [7, 8], [9]], [[], [], [3], [], [5], [6], [7, 8], [9], [9], []], [[0, 0, 0, 2], [0, 2], [2], [1, 2], [2]], [[4, 4, 4, 4], [5, 5, 5, 5], [6, 6, 6, 6], [7, 8, 7, 8], [9, 9, 9, 9]]⟩
theorem d268Ok : tailOk d268 = true := by decide +kernel
noncomputable def d269 : Dat := ⟨9, true, [[0, 1, 4, 5, 6, 7], [0, 1, 4, 5, 6, 8]], [[0], [1], [2, 4], [3, 5], [6], [7, 8]], [[1], [2, 4], [3], [], [5], [6], [7, 8], [], []], [[2], [2], [0, 2], [0, 2], [2], [1, 2]], [[0, 0, 0, 0], [1, 1, 1, 1], [4, 4, 4, 4], [5, 5, 5, 5], [6, 6, 6, 6], [7, 8, 7, 8]]⟩
theorem d269Ok : tailOk d269 = true := by decide +kernel
noncomputable def d270 : Dat := ⟨9, true, [[0, 4, 5, 6, 7], [1, 4, 5, 6, 7], [0, 4, 5, 6, 8], [1, 4, 5, 6, 8]], [[0, 1], [2, 4], [3, 5], [6], [7, 8]], [[2, 4], [2, 4], [3], [], [5], [6], [7, 8], [], []], [[2, 4], [0, 4], [0, 4], [4], [2, 4]], [[0, 1, 0, 0, 1, 1], [4, 4, 4, 4, 4, 4], [5, 5, 5, 5, 5, 5], [6, 6, 6, 6, 6, 6], [7, 8, 7, 7, 8, 8]]⟩
theorem d270Ok : tailOk d270 = true := by decide +kernel
noncomputable def d271 : Dat := ⟨9, true, [[0, 1, 2, 3, 7], [0, 1, 5, 6, 7], [0, 4, 5, 6, 7], [0, 1, 2, 3, 8], [0, 1, 5, 6, 8], [0, 4, 5, 6, 8]], [[0], [1, 4], [2, 5], [3, 6], [7, 8]], [[1, 4], [2, 5], [3], [7, 8], [5], [6], [7, 8], [], []], [[6], [4, 6], [2, 6], [2, 6], [3, 6]], [[0, 0, 0, 0, 0, 0, 0, 0], [1, 1, 1, 1, 1, 1, 4, 4], [5, 5, 2, 2, 5, 5, 5, 5], [6, 6, 3, 3, 6, 6, 6, 6], [7, 8, 7, 7, 7, 8, 8, 8]]⟩
theorem d271Ok : tailOk d271 = true := by decide +kernel
noncomputable def d272 : Dat := ⟨9, true, [[0, 1, 2, 3, 7], [0, 4, 5, 6, 7], [0, 1, 2, 3, 8], [0, 4, 5, 6, 8]], [[0], [1, 4], [2, 5], [3, 6], [7, 8]], [[1, 4], [2], [3], [7, 8], [5], [6], [7, 8], [], []], [[4], [2, 4], [2, 4], [2, 4], [2, 4]], [[0, 0, 0, 0, 0, 0], [1, 4, 1, 1, 4, 4], [2, 5, 2, 2, 5, 5], [3, 6, 3, 3, 6, 6], [7, 8, 7, 7, 8, 8]]⟩
theorem d272Ok : tailOk d272 = true := by decide +kernel
noncomputable def d273 : Dat := ⟨9, true, [[0, 4, 5, 6, 7], [0, 4, 5, 6, 8]], [[0], [1, 2, 4], [3, 5], [6], [7, 8]], [[1, 2, 4], [3], [3], [], [5], [6], [7, 8], [], []], [[2], [0, 0, 2], [0, 2], [2], [1, 2]], [[0, 0, 0, 0], [4, 4, 4, 4], [5, 5, 5, 5], [6, 6, 6, 6], [7, 8, 7, 8]]⟩
theorem d273Ok : tailOk d273 = true := by decide +kernel
noncomputable def d274 : Dat := ⟨9, true, [[0, 4, 5, 6, 7], [0, 4, 5, 6, 8]], [[0], [1, 2, 4], [3, 5], [6], [7, 8]], [[1, 2, 4], [], [3], [], [5], [6], [7, 8], [], []], [[2], [0, 0, 2], [0, 2], [2], [1, 2]], [[0, 0, 0, 0], [4, 4, 4, 4], [5, 5, 5, 5], [6, 6, 6, 6], [7, 8, 7, 8]]⟩
theorem d274Ok : tailOk d274 = true := by decide +kernel
noncomputable def d275 : Dat := ⟨9, true, [[1, 4, 5, 6, 7], [1, 4, 5, 6, 8]], [[0, 1], [2, 4], [3, 5], [6], [7, 8]], [[2], [2, 4], [3], [], [5], [6], [7, 8], [], []], [[0, 2], [0, 2], [0, 2], [2], [1, 2]], [[1, 1, 1, 1], [4, 4, 4, 4], [5, 5, 5, 5], [6, 6, 6, 6], [7, 8, 7, 8]]⟩
theorem d275Ok : tailOk d275 = true := by decide +kernel
noncomputable def d276 : Dat := ⟨9, true, [[0, 1, 2, 3, 7], [0, 1, 5, 6, 7], [0, 1, 2, 3, 8], [0, 1, 5, 6, 8]], [[0, 4], [1], [2, 5], [3, 6], [7, 8]], [[1], [2, 5], [3], [7, 8], [], [6], [7, 8], [], []], [[4, 4], [4], [2, 4], [2, 4], [2, 4]], [[0, 0, 0, 0, 0, 0], [1, 1, 1, 1, 1, 1], [2, 5, 2, 2, 5, 5], [3, 6, 3, 3, 6, 6], [7, 8, 7, 7, 8, 8]]⟩
theorem d276Ok : tailOk d276 = true := by decide +kernel
noncomputable def d277 : Dat := ⟨9, true, [[0, 1, 2, 3, 7], [0, 1, 2, 3, 8]], [[0, 4], [1, 5], [2, 6], [3], [7, 8]], [[1, 5], [2], [3], [7, 8], [5], [6], [], [], []], [[2, 2], [2, 2], [2, 2], [2], [1, 2]], [[0, 0, 0, 0], [1, 1, 1, 1], [2, 2, 2, 2], [3, 3, 3, 3], [7, 8, 7, 8]]⟩
theorem d277Ok : tailOk d277 = true := by decide +kernel
noncomputable def d278 : Dat := ⟨9, true, [[0, 1, 3, 7], [0, 2, 3, 7], [0, 5, 6, 7], [4, 5, 6, 7], [0, 1, 3, 8], [0, 2, 3, 8], [0, 5, 6, 8], [4, 5, 6, 8]], [[0, 4], [1, 2, 5], [3, 6], [7, 8]], [[1, 2, 5], [3], [3], [7, 8], [5], [6], [7, 8], [], []], [[6, 8], [2, 4, 8], [4, 8], [4, 8]], [[0, 0, 0, 0, 0, 0, 0, 0, 4, 4], [2, 5, 1, 1, 2, 2, 5, 5, 5, 5], [3, 6, 3, 3, 3, 3, 6, 6, 6, 6], [7, 8, 7, 7, 7, 7, 8, 8, 8, 8]]⟩
theorem d278Ok : tailOk d278 = true := by decide +kernel
noncomputable def d279 : Dat := ⟨9, true, [[0, 2, 3, 7], [0, 5, 6, 7], [4, 5, 6, 7], [0, 2, 3, 8], [0, 5, 6, 8], [4, 5, 6, 8]], [[0, 4], [1, 2, 5], [3, 6], [7, 8]], [[1, 2, 5], [], [3], [7, 8], [5], [6], [7, 8], [], []], [[4, 6], [0, 2, 6], [2, 6], [3, 6]], [[0, 0, 0, 0, 0, 0, 4, 4], [5, 5, 2, 2, 5, 5, 5, 5], [6, 6, 3, 3, 6, 6, 6, 6], [7, 8, 7, 7, 7, 8, 8, 8]]⟩
theorem d279Ok : tailOk d279 = true := by decide +kernel
noncomputable def d280 : Dat := ⟨9, true, [[0, 2, 3, 7], [1, 2, 3, 7], [1, 5, 6, 7], [4, 5, 6, 7], [0, 2, 3, 8], [1, 2, 3, 8], [1, 5, 6, 8], [4, 5, 6, 8]], [[0, 1, 4], [2, 5], [3, 6], [7, 8]], [[2], [2, 5], [3], [7, 8], [5], [6], [7, 8], [], []], [[2, 6, 8], [4, 8], [4, 8], [4, 8]], [[1, 1, 0, 0, 1, 1, 1, 1, 4, 4], [2, 5, 2, 2, 2, 2, 5, 5, 5, 5], [3, 6, 3, 3, 3, 3, 6, 6, 6, 6], [7, 8, 7, 7, 7, 7, 8, 8, 8, 8]]⟩
theorem d280Ok : tailOk d280 = true := by decide +kernel
noncomputable def d281 : Dat := ⟨9, true, [[0, 1, 2, 3, 7], [0, 1, 2, 3, 8]], [[0, 4], [1, 5], [2, 6], [3], [7, 8]], [[1], [2], [3], [7, 8], [5], [6], [], [], []], [[2, 2], [2, 2], [2, 2], [2], [1, 2]], [[0, 0, 0, 0], [1, 1, 1, 1], [2, 2, 2, 2], [3, 3, 3, 3], [7, 8, 7, 8]]⟩
theorem d281Ok : tailOk d281 = true := by decide +kernel
noncomputable def d282 : Dat := ⟨9, true, [[0, 1, 3, 7], [0, 2, 3, 7], [4, 5, 6, 7], [0, 1, 3, 8], [0, 2, 3, 8], [4, 5, 6, 8]], [[0, 4], [1, 2, 5], [3, 6], [7, 8]], [[1, 2], [3], [3], [7, 8], [5], [6], [7, 8], [], []], [[4, 6], [2, 4, 6], [4, 6], [3, 6]], [[0, 0, 0, 0, 0, 0, 4, 4], [2, 2, 1, 1, 2, 2, 5, 5], [3, 3, 3, 3, 3, 3, 6, 6], [7, 8, 7, 7, 7, 8, 8, 8]]⟩
theorem d282Ok : tailOk d282 = true := by decide +kernel
noncomputable def d283 : Dat := ⟨9, true, [[0, 2, 3, 7], [4, 5, 6, 7], [0, 2, 3, 8], [4, 5, 6, 8]], [[0, 4], [1, 2, 5], [3, 6], [7, 8]], [[1, 2], [], [3], [7, 8], [5], [6], [7, 8], [], []], [[2, 4], [0, 2, 4], [2, 4], [2, 4]], [[0, 4, 0, 0, 4, 4], [2, 5, 2, 2, 5, 5], [3, 6, 3, 3, 6, 6], [7, 8, 7, 7, 8, 8]]⟩
theorem d283Ok : tailOk d283 = true := by decide +kernel
noncomputable def d284 : Dat := ⟨9, true, [[1, 4, 5, 6, 7], [1, 4, 5, 6, 8]], [[0, 1], [2, 4], [3, 5], [6], [7, 8]], [[], [2, 4], [3], [], [5], [6], [7, 8], [], []], [[0, 2], [0, 2], [0, 2], [2], [1, 2]], [[1, 1, 1, 1], [4, 4, 4, 4], [5, 5, 5, 5], [6, 6, 6, 6], [7, 8, 7, 8]]⟩
theorem d284Ok : tailOk d284 = true := by decide +kernel
noncomputable def d285 : Dat := ⟨9, true, [[1, 2, 3, 7], [1, 5, 6, 7], [4, 5, 6, 7], [1, 2, 3, 8], [1, 5, 6, 8], [4, 5, 6, 8]], [[0, 1, 4], [2, 5], [3, 6], [7, 8]], [[], [2, 5], [3], [7, 8], [5], [6], [7, 8], [], []], [[0, 4, 6], [2, 6], [2, 6], [3, 6]], [[1, 1, 1, 1, 1, 1, 4, 4], [5, 5, 2, 2, 5, 5, 5, 5], [6, 6, 3, 3, 6, 6, 6, 6], [7, 8, 7, 7, 7, 8, 8, 8]]⟩
theorem d285Ok : tailOk d285 = true := by decide +kernel
noncomputable def d286 : Dat := ⟨9, true, [[1, 2, 3, 7], [4, 5, 6, 7], [1, 2, 3, 8], [4, 5, 6, 8]], [[0, 1, 4], [2, 5], [3, 6], [7, 8]], [[], [2], [3], [7, 8], [5], [6], [7, 8], [], []], [[0, 2, 4], [2, 4], [2, 4], [2, 4]], [[1, 4, 1, 1, 4, 4], [2, 5, 2, 2, 5, 5], [3, 6, 3, 3, 6, 6], [7, 8, 7, 7, 8, 8]]⟩
theorem d286Ok : tailOk d286 = true := by decide +kernel
noncomputable def d287 : Dat := ⟨9, true, [[0, 1, 3, 7], [4, 5, 6, 7], [0, 1, 3, 8], [4, 5, 6, 8]], [[0, 2, 4], [1, 5], [3, 6], [7, 8]], [[1], [3], [], [7, 8], [5], [6], [7, 8], [], []], [[2, 2, 4], [2, 4], [2, 4], [2, 4]], [[0, 4, 0, 0, 4, 4], [1, 5, 1, 1, 5, 5], [3, 6, 3, 3, 6, 6], [7, 8, 7, 7, 8, 8]]⟩
theorem d287Ok : tailOk d287 = true := by decide +kernel
noncomputable def d288 : Dat := ⟨9, true, [[4, 5, 6, 7], [4, 5, 6, 8]], [[0, 2, 4], [1, 3, 5], [6], [7, 8]], [[1, 3], [], [3], [], [5], [6], [7, 8], [], []], [[0, 0, 2], [0, 0, 2], [2], [1, 2]], [[4, 4, 4, 4], [5, 5, 5, 5], [6, 6, 6, 6], [7, 8, 7, 8]]⟩
theorem d288Ok : tailOk d288 = true := by decide +kernel
noncomputable def d289 : Dat := ⟨9, true, [[4, 5, 6, 7], [4, 5, 6, 8]], [[0, 1, 2, 4], [3, 5], [6], [7, 8]], [[], [3], [3], [], [5], [6], [7, 8], [], []], [[0, 0, 0, 2], [0, 2], [2], [1, 2]], [[4, 4, 4, 4], [5, 5, 5, 5], [6, 6, 6, 6], [7, 8, 7, 8]]⟩
theorem d289Ok : tailOk d289 = true := by decide +kernel
noncomputable def d290 : Dat := ⟨9, true, [[4, 5, 6, 7], [4, 5, 6, 8]], [[0, 2, 4], [1, 3, 5], [6], [7, 8]], [[1], [], [3], [], [5], [6], [7, 8], [], []], [[0, 0, 2], [0, 0, 2], [2], [1, 2]], [[4, 4, 4, 4], [5, 5, 5, 5], [6, 6, 6, 6], [7, 8, 7, 8]]⟩
theorem d290Ok : tailOk d290 = true := by decide +kernel
noncomputable def d291 : Dat := ⟨9, true, [[4, 5, 6, 7], [4, 5, 6, 8]], [[0, 1, 2, 4], [3, 5], [6], [7, 8]], [[], [], [3], [], [5], [6], [7, 8], [], []], [[0, 0, 0, 2], [0, 2], [2], [1, 2]], [[4, 4, 4, 4], [5, 5, 5, 5], [6, 6, 6, 6], [7, 8, 7, 8]]⟩
theorem d291Ok : tailOk d291 = true := by decide +kernel
noncomputable def d292 : Dat := ⟨8, false, [[0, 1, 2, 6], [0, 3, 4, 6], [0, 3, 5, 6], [0, 3, 4, 7], [0, 3, 5, 7]], [[0], [1, 3], [2, 4, 5], [6, 7]], [[1, 3], [2], [6], [4, 5], [6, 7], [6, 7], [], []], [[5], [1, 5], [1, 3, 5], [3, 5]], [[0, 0, 0, 0, 0, 0, 0], [3, 3, 1, 3, 3, 3, 3], [4, 4, 2, 4, 4, 5, 5], [6, 6, 6, 6, 6, 7, 7]]⟩
theorem d292Ok : tailOk d292 = true := by decide +kernel
noncomputable def d293 : Dat := ⟨8, false, [[0, 1, 2, 6]], [[0, 3], [1, 4, 5], [2, 7], [6]], [[1, 4, 5], [2, 7], [6], [4, 5], [7], [7], [], []], [[1, 1], [1, 1, 1], [1, 1], [1]], [[0, 0, 0], [1, 1, 1], [2, 2, 2], [6, 6, 6]]⟩
theorem d293Ok : tailOk d293 = true := by decide +kernel
noncomputable def d294 : Dat := ⟨8, false, [[0, 1, 2, 6]], [[0, 3], [1, 4, 5], [2, 7], [6]], [[1], [2, 7], [6], [4, 5], [7], [7], [], []], [[1, 1], [1, 1, 1], [1, 1], [1]], [[0, 0, 0], [1, 1, 1], [2, 2, 2], [6, 6, 6]]⟩
theorem d294Ok : tailOk d294 = true := by decide +kernel
noncomputable def d295 : Dat := ⟨8, false, [[0, 2, 6], [1, 2, 6], [3, 4, 6], [3, 5, 6], [3, 4, 7], [3, 5, 7]], [[0, 1, 3], [2, 4, 5], [6, 7]], [[2], [2], [6], [4, 5], [6, 7], [6, 7], [], []], [[1, 2, 6], [2, 4, 6], [4, 6]], [[3, 3, 0, 1, 3, 3, 3, 3], [4, 4, 2, 2, 4, 4, 5, 5], [6, 6, 6, 6, 6, 6, 7, 7]]⟩
theorem d295Ok : tailOk d295 = true := by decide +kernel
noncomputable def d296 : Dat := ⟨8, false, [[1, 2, 6], [3, 4, 6], [3, 5, 6], [3, 4, 7], [3, 5, 7]], [[0, 1, 3], [2, 4, 5], [6, 7]], [[], [2], [6], [4, 5], [6, 7], [6, 7], [], []], [[0, 1, 5], [1, 3, 5], [3, 5]], [[3, 3, 1, 3, 3, 3, 3], [4, 4, 2, 4, 4, 5, 5], [6, 6, 6, 6, 6, 7, 7]]⟩
theorem d296Ok : tailOk d296 = true := by decide +kernel
noncomputable def d297 : Dat := ⟨7, true, [[2, 3, 4, 5], [2, 3, 4, 6]], [[0, 2], [1, 3], [4], [5, 6]], [[1], [], [3], [4], [5, 6], [], []], [[0, 2], [0, 2], [2], [1, 2]], [[2, 2, 2, 2], [3, 3, 3, 3], [4, 4, 4, 4], [5, 6, 5, 6]]⟩
theorem d297Ok : tailOk d297 = true := by decide +kernel
end Mine
end

section
set_option Elab.async false
set_option maxRecDepth 100000
set_option maxHeartbeats 4000000
namespace Mine
structure Cs3 where
  a : Int
  b : Int
  c : Int
  d : Dat
  e : Dat
structure Cs2 where
  a : Int
  b : Int
  d : Dat
structure Cs1 where
  a : Int
  d : Dat
noncomputable def chk (row : List Int) (weak : Bool) (d : Dat) : Bool := (d.weak == weak) && headOk2 row d
noncomputable def chk3 (e : Cs3) : Bool := chk [e.a, e.b, 3, 4, 1, 2, 2, 5, 4, e.c] true e.d && chk [e.a, e.b, 3, 4, 1, 2, 2, 5, 4, e.c] false e.e
noncomputable def chk2 (e : Cs2) : Bool := chk [e.a, e.b, 3, 4, 1, 2, 2, 5, 4] true e.d
noncomputable def chk1 (e : Cs1) : Bool := chk [e.a, 3, 4, 1, 2, 2, 5, 4] false e.d
noncomputable def Good3 (l : List Cs3) : Prop := ∀ e ∈ l, chk3 e = true ∧ tailOk e.d = true ∧ tailOk e.e = true
noncomputable def Good2 (l : List Cs2) : Prop := ∀ e ∈ l, chk2 e = true ∧ tailOk e.d = true
noncomputable def Good1 (l : List Cs1) : Prop := ∀ e ∈ l, chk1 e = true ∧ tailOk e.d = true
theorem good3 {l : List Cs3} (h : l.all chk3 = true) (t : ∀ e ∈ l, tailOk e.d = true ∧ tailOk e.e = true) : Good3 l := fun e he => ⟨List.all_eq_true.mp h e he, t e he⟩
theorem good2 {l : List Cs2} (h : l.all chk2 = true) (t : ∀ e ∈ l, tailOk e.d = true) : Good2 l := fun e he => ⟨List.all_eq_true.mp h e he, t e he⟩
theorem good1 {l : List Cs1} (h : l.all chk1 = true) (t : ∀ e ∈ l, tailOk e.d = true) : Good1 l := fun e he => ⟨List.all_eq_true.mp h e he, t e he⟩
theorem Good3.append {l m : List Cs3} (h : Good3 l) (k : Good3 m) : Good3 (l ++ m) := fun e he => (List.mem_append.mp he).elim (h e) (k e)
theorem Good2.append {l m : List Cs2} (h : Good2 l) (k : Good2 m) : Good2 (l ++ m) := fun e he => (List.mem_append.mp he).elim (h e) (k e)
noncomputable def cA0c0 : List Cs3 := [⟨-2, -1, 0, d0, d1⟩, ⟨-2, 0, -1, d2, d3⟩]
theorem cA0c0Ok : Good3 cA0c0 := good3 (by decide +kernel) (List.forall_mem_cons.mpr ⟨⟨d0Ok, d1Ok⟩, List.forall_mem_cons.mpr ⟨⟨d2Ok, d3Ok⟩, fun _ h => nomatch h⟩⟩)
noncomputable def cA0L : List Cs3 := cA0c0
theorem cA0LOk : Good3 cA0L := cA0c0Ok
noncomputable def cA1c0 : List Cs3 := [⟨-1, -2, 0, d4, d5⟩, ⟨-1, -1, 0, d0, d5⟩, ⟨-1, 0, -2, d6, d7⟩, ⟨-1, 0, -1, d2, d7⟩, ⟨-1, 0, 0, d0, d3⟩, ⟨-1, 0, 1, d8, d1⟩, ⟨-1, 0, 2, d9, d10⟩, ⟨-1, 0, 3, d9, d11⟩, ⟨-1, 0, 4, d12, d11⟩, ⟨-1, 0, 5, d13, d14⟩, ⟨-1, 0, 6, d13, d15⟩, ⟨-1, 1, 0, d2, d16⟩]
theorem cA1c0Ok : Good3 cA1c0 := good3 (by decide +kernel) (List.forall_mem_cons.mpr ⟨⟨d4Ok, d5Ok⟩, List.forall_mem_cons.mpr ⟨⟨d0Ok, d5Ok⟩, List.forall_mem_cons.mpr ⟨⟨d6Ok, d7Ok⟩, List.forall_mem_cons.mpr ⟨⟨d2Ok, d7Ok⟩, List.forall_mem_cons.mpr ⟨⟨d0Ok, d3Ok⟩, List.forall_mem_cons.mpr ⟨⟨d8Ok, d1Ok⟩, List.forall_mem_cons.mpr ⟨⟨d9Ok, d10Ok⟩, List.forall_mem_cons.mpr ⟨⟨d9Ok, d11Ok⟩, List.forall_mem_cons.mpr ⟨⟨d12Ok, d11Ok⟩, List.forall_mem_cons.mpr ⟨⟨d13Ok, d14Ok⟩, List.forall_mem_cons.mpr ⟨⟨d13Ok, d15Ok⟩, List.forall_mem_cons.mpr ⟨⟨d2Ok, d16Ok⟩, fun _ h => nomatch h⟩⟩⟩⟩⟩⟩⟩⟩⟩⟩⟩⟩)
noncomputable def cA1c1 : List Cs3 := [⟨-1, 2, 0, d17, d18⟩, ⟨-1, 3, 0, d19, d20⟩, ⟨-1, 4, 0, d21, d22⟩, ⟨-1, 5, 0, d23, d22⟩, ⟨-1, 6, 0, d23, d22⟩]
theorem cA1c1Ok : Good3 cA1c1 := good3 (by decide +kernel) (List.forall_mem_cons.mpr ⟨⟨d17Ok, d18Ok⟩, List.forall_mem_cons.mpr ⟨⟨d19Ok, d20Ok⟩, List.forall_mem_cons.mpr ⟨⟨d21Ok, d22Ok⟩, List.forall_mem_cons.mpr ⟨⟨d23Ok, d22Ok⟩, List.forall_mem_cons.mpr ⟨⟨d23Ok, d22Ok⟩, fun _ h => nomatch h⟩⟩⟩⟩⟩)
noncomputable def cA1L : List Cs3 := cA1c0 ++ (cA1c1)
theorem cA1LOk : Good3 cA1L := cA1c0Ok.append (cA1c1Ok)
noncomputable def cA2c0 : List Cs3 := [⟨0, -2, -1, d24, d25⟩, ⟨0, -1, -2, d26, d27⟩, ⟨0, -1, -1, d24, d27⟩, ⟨0, -1, 0, d4, d25⟩, ⟨0, -1, 1, d28, d5⟩, ⟨0, -1, 2, d29, d30⟩, ⟨0, -1, 3, d29, d31⟩, ⟨0, -1, 4, d32, d31⟩, ⟨0, -1, 5, d33, d34⟩, ⟨0, -1, 6, d33, d35⟩, ⟨0, 0, -1, d6, d27⟩, ⟨0, 0, 0, d0, d27⟩]
theorem cA2c0Ok : Good3 cA2c0 := good3 (by decide +kernel) (List.forall_mem_cons.mpr ⟨⟨d24Ok, d25Ok⟩, List.forall_mem_cons.mpr ⟨⟨d26Ok, d27Ok⟩, List.forall_mem_cons.mpr ⟨⟨d24Ok, d27Ok⟩, List.forall_mem_cons.mpr ⟨⟨d4Ok, d25Ok⟩, List.forall_mem_cons.mpr ⟨⟨d28Ok, d5Ok⟩, List.forall_mem_cons.mpr ⟨⟨d29Ok, d30Ok⟩, List.forall_mem_cons.mpr ⟨⟨d29Ok, d31Ok⟩, List.forall_mem_cons.mpr ⟨⟨d32Ok, d31Ok⟩, List.forall_mem_cons.mpr ⟨⟨d33Ok, d34Ok⟩, List.forall_mem_cons.mpr ⟨⟨d33Ok, d35Ok⟩, List.forall_mem_cons.mpr ⟨⟨d6Ok, d27Ok⟩, List.forall_mem_cons.mpr ⟨⟨d0Ok, d27Ok⟩, fun _ h => nomatch h⟩⟩⟩⟩⟩⟩⟩⟩⟩⟩⟩⟩)
noncomputable def cA2c1 : List Cs3 := [⟨0, 0, 1, d8, d5⟩, ⟨0, 0, 2, d9, d30⟩, ⟨0, 0, 3, d9, d31⟩, ⟨0, 0, 4, d12, d31⟩, ⟨0, 0, 5, d13, d34⟩, ⟨0, 0, 6, d13, d35⟩, ⟨0, 1, -1, d6, d36⟩, ⟨0, 1, 0, d2, d36⟩, ⟨0, 1, 1, d8, d16⟩, ⟨0, 1, 2, d9, d37⟩, ⟨0, 1, 3, d9, d38⟩, ⟨0, 1, 4, d12, d39⟩]
theorem cA2c1Ok : Good3 cA2c1 := good3 (by decide +kernel) (List.forall_mem_cons.mpr ⟨⟨d8Ok, d5Ok⟩, List.forall_mem_cons.mpr ⟨⟨d9Ok, d30Ok⟩, List.forall_mem_cons.mpr ⟨⟨d9Ok, d31Ok⟩, List.forall_mem_cons.mpr ⟨⟨d12Ok, d31Ok⟩, List.forall_mem_cons.mpr ⟨⟨d13Ok, d34Ok⟩, List.forall_mem_cons.mpr ⟨⟨d13Ok, d35Ok⟩, List.forall_mem_cons.mpr ⟨⟨d6Ok, d36Ok⟩, List.forall_mem_cons.mpr ⟨⟨d2Ok, d36Ok⟩, List.forall_mem_cons.mpr ⟨⟨d8Ok, d16Ok⟩, List.forall_mem_cons.mpr ⟨⟨d9Ok, d37Ok⟩, List.forall_mem_cons.mpr ⟨⟨d9Ok, d38Ok⟩, List.forall_mem_cons.mpr ⟨⟨d12Ok, d39Ok⟩, fun _ h => nomatch h⟩⟩⟩⟩⟩⟩⟩⟩⟩⟩⟩⟩)
noncomputable def cA2c2 : List Cs3 := [⟨0, 1, 5, d13, d40⟩, ⟨0, 1, 6, d13, d41⟩, ⟨0, 2, -1, d42, d43⟩, ⟨0, 2, 0, d17, d43⟩, ⟨0, 2, 1, d44, d18⟩, ⟨0, 2, 2, d45, d46⟩, ⟨0, 2, 3, d45, d47⟩, ⟨0, 2, 4, d48, d49⟩, ⟨0, 2, 5, d50, d51⟩, ⟨0, 2, 6, d50, d52⟩, ⟨0, 3, -1, d53, d54⟩, ⟨0, 3, 0, d19, d54⟩]
theorem cA2c2Ok : Good3 cA2c2 := good3 (by decide +kernel) (List.forall_mem_cons.mpr ⟨⟨d13Ok, d40Ok⟩, List.forall_mem_cons.mpr ⟨⟨d13Ok, d41Ok⟩, List.forall_mem_cons.mpr ⟨⟨d42Ok, d43Ok⟩, List.forall_mem_cons.mpr ⟨⟨d17Ok, d43Ok⟩, List.forall_mem_cons.mpr ⟨⟨d44Ok, d18Ok⟩, List.forall_mem_cons.mpr ⟨⟨d45Ok, d46Ok⟩, List.forall_mem_cons.mpr ⟨⟨d45Ok, d47Ok⟩, List.forall_mem_cons.mpr ⟨⟨d48Ok, d49Ok⟩, List.forall_mem_cons.mpr ⟨⟨d50Ok, d51Ok⟩, List.forall_mem_cons.mpr ⟨⟨d50Ok, d52Ok⟩, List.forall_mem_cons.mpr ⟨⟨d53Ok, d54Ok⟩, List.forall_mem_cons.mpr ⟨⟨d19Ok, d54Ok⟩, fun _ h => nomatch h⟩⟩⟩⟩⟩⟩⟩⟩⟩⟩⟩⟩)
noncomputable def cA2c3 : List Cs3 := [⟨0, 3, 1, d55, d20⟩, ⟨0, 3, 2, d56, d57⟩, ⟨0, 3, 3, d56, d58⟩, ⟨0, 3, 4, d59, d58⟩, ⟨0, 3, 5, d60, d61⟩, ⟨0, 3, 6, d60, d62⟩, ⟨0, 4, -1, d63, d64⟩, ⟨0, 4, 0, d21, d64⟩, ⟨0, 4, 1, d65, d22⟩, ⟨0, 4, 2, d66, d67⟩, ⟨0, 4, 3, d66, d68⟩, ⟨0, 4, 4, d69, d68⟩]
theorem cA2c3Ok : Good3 cA2c3 := good3 (by decide +kernel) (List.forall_mem_cons.mpr ⟨⟨d55Ok, d20Ok⟩, List.forall_mem_cons.mpr ⟨⟨d56Ok, d57Ok⟩, List.forall_mem_cons.mpr ⟨⟨d56Ok, d58Ok⟩, List.forall_mem_cons.mpr ⟨⟨d59Ok, d58Ok⟩, List.forall_mem_cons.mpr ⟨⟨d60Ok, d61Ok⟩, List.forall_mem_cons.mpr ⟨⟨d60Ok, d62Ok⟩, List.forall_mem_cons.mpr ⟨⟨d63Ok, d64Ok⟩, List.forall_mem_cons.mpr ⟨⟨d21Ok, d64Ok⟩, List.forall_mem_cons.mpr ⟨⟨d65Ok, d22Ok⟩, List.forall_mem_cons.mpr ⟨⟨d66Ok, d67Ok⟩, List.forall_mem_cons.mpr ⟨⟨d66Ok, d68Ok⟩, List.forall_mem_cons.mpr ⟨⟨d69Ok, d68Ok⟩, fun _ h => nomatch h⟩⟩⟩⟩⟩⟩⟩⟩⟩⟩⟩⟩)
noncomputable def cA2c4 : List Cs3 := [⟨0, 4, 5, d70, d71⟩, ⟨0, 4, 6, d70, d72⟩, ⟨0, 5, -1, d73, d64⟩, ⟨0, 5, 0, d23, d64⟩, ⟨0, 5, 1, d74, d22⟩, ⟨0, 5, 2, d75, d67⟩, ⟨0, 5, 3, d75, d68⟩, ⟨0, 5, 4, d76, d68⟩, ⟨0, 5, 5, d77, d71⟩, ⟨0, 5, 6, d77, d72⟩, ⟨0, 6, -1, d73, d64⟩, ⟨0, 6, 0, d23, d64⟩]
theorem cA2c4Ok : Good3 cA2c4 := good3 (by decide +kernel) (List.forall_mem_cons.mpr ⟨⟨d70Ok, d71Ok⟩, List.forall_mem_cons.mpr ⟨⟨d70Ok, d72Ok⟩, List.forall_mem_cons.mpr ⟨⟨d73Ok, d64Ok⟩, List.forall_mem_cons.mpr ⟨⟨d23Ok, d64Ok⟩, List.forall_mem_cons.mpr ⟨⟨d74Ok, d22Ok⟩, List.forall_mem_cons.mpr ⟨⟨d75Ok, d67Ok⟩, List.forall_mem_cons.mpr ⟨⟨d75Ok, d68Ok⟩, List.forall_mem_cons.mpr ⟨⟨d76Ok, d68Ok⟩, List.forall_mem_cons.mpr ⟨⟨d77Ok, d71Ok⟩, List.forall_mem_cons.mpr ⟨⟨d77Ok, d72Ok⟩, List.forall_mem_cons.mpr ⟨⟨d73Ok, d64Ok⟩, List.forall_mem_cons.mpr ⟨⟨d23Ok, d64Ok⟩, fun _ h => nomatch h⟩⟩⟩⟩⟩⟩⟩⟩⟩⟩⟩⟩)
noncomputable def cA2c5 : List Cs3 := [⟨0, 6, 1, d74, d22⟩, ⟨0, 6, 2, d75, d67⟩, ⟨0, 6, 3, d75, d68⟩, ⟨0, 6, 4, d76, d68⟩, ⟨0, 6, 5, d77, d71⟩, ⟨0, 6, 6, d77, d72⟩, ⟨0, 6, 7, d77, d72⟩, ⟨0, 7, 6, d77, d72⟩]
theorem cA2c5Ok : Good3 cA2c5 := good3 (by decide +kernel) (List.forall_mem_cons.mpr ⟨⟨d74Ok, d22Ok⟩, List.forall_mem_cons.mpr ⟨⟨d75Ok, d67Ok⟩, List.forall_mem_cons.mpr ⟨⟨d75Ok, d68Ok⟩, List.forall_mem_cons.mpr ⟨⟨d76Ok, d68Ok⟩, List.forall_mem_cons.mpr ⟨⟨d77Ok, d71Ok⟩, List.forall_mem_cons.mpr ⟨⟨d77Ok, d72Ok⟩, List.forall_mem_cons.mpr ⟨⟨d77Ok, d72Ok⟩, List.forall_mem_cons.mpr ⟨⟨d77Ok, d72Ok⟩, fun _ h => nomatch h⟩⟩⟩⟩⟩⟩⟩⟩)
noncomputable def cA2L : List Cs3 := cA2c0 ++ (cA2c1 ++ (cA2c2 ++ (cA2c3 ++ (cA2c4 ++ (cA2c5)))))
theorem cA2LOk : Good3 cA2L := cA2c0Ok.append (cA2c1Ok.append (cA2c2Ok.append (cA2c3Ok.append (cA2c4Ok.append (cA2c5Ok)))))
noncomputable def cA3c0 : List Cs3 := [⟨1, -1, 0, d24, d78⟩, ⟨1, 0, -1, d26, d79⟩, ⟨1, 0, 0, d24, d79⟩, ⟨1, 0, 1, d28, d78⟩, ⟨1, 0, 2, d29, d80⟩, ⟨1, 0, 3, d29, d81⟩, ⟨1, 0, 4, d32, d81⟩, ⟨1, 0, 5, d33, d82⟩, ⟨1, 0, 6, d33, d83⟩, ⟨1, 1, 0, d6, d84⟩, ⟨1, 1, 1, d8, d84⟩, ⟨1, 1, 2, d9, d85⟩]
theorem cA3c0Ok : Good3 cA3c0 := good3 (by decide +kernel) (List.forall_mem_cons.mpr ⟨⟨d24Ok, d78Ok⟩, List.forall_mem_cons.mpr ⟨⟨d26Ok, d79Ok⟩, List.forall_mem_cons.mpr ⟨⟨d24Ok, d79Ok⟩, List.forall_mem_cons.mpr ⟨⟨d28Ok, d78Ok⟩, List.forall_mem_cons.mpr ⟨⟨d29Ok, d80Ok⟩, List.forall_mem_cons.mpr ⟨⟨d29Ok, d81Ok⟩, List.forall_mem_cons.mpr ⟨⟨d32Ok, d81Ok⟩, List.forall_mem_cons.mpr ⟨⟨d33Ok, d82Ok⟩, List.forall_mem_cons.mpr ⟨⟨d33Ok, d83Ok⟩, List.forall_mem_cons.mpr ⟨⟨d6Ok, d84Ok⟩, List.forall_mem_cons.mpr ⟨⟨d8Ok, d84Ok⟩, List.forall_mem_cons.mpr ⟨⟨d9Ok, d85Ok⟩, fun _ h => nomatch h⟩⟩⟩⟩⟩⟩⟩⟩⟩⟩⟩⟩)
noncomputable def cA3c1 : List Cs3 := [⟨1, 1, 3, d9, d86⟩, ⟨1, 1, 4, d12, d87⟩, ⟨1, 1, 5, d13, d88⟩, ⟨1, 1, 6, d13, d89⟩, ⟨1, 2, 0, d42, d90⟩, ⟨1, 2, 1, d44, d90⟩, ⟨1, 2, 2, d45, d91⟩, ⟨1, 2, 3, d45, d92⟩, ⟨1, 2, 4, d48, d93⟩, ⟨1, 2, 5, d50, d94⟩, ⟨1, 2, 6, d50, d95⟩, ⟨1, 3, 0, d53, d96⟩]
theorem cA3c1Ok : Good3 cA3c1 := good3 (by decide +kernel) (List.forall_mem_cons.mpr ⟨⟨d9Ok, d86Ok⟩, List.forall_mem_cons.mpr ⟨⟨d12Ok, d87Ok⟩, List.forall_mem_cons.mpr ⟨⟨d13Ok, d88Ok⟩, List.forall_mem_cons.mpr ⟨⟨d13Ok, d89Ok⟩, List.forall_mem_cons.mpr ⟨⟨d42Ok, d90Ok⟩, List.forall_mem_cons.mpr ⟨⟨d44Ok, d90Ok⟩, List.forall_mem_cons.mpr ⟨⟨d45Ok, d91Ok⟩, List.forall_mem_cons.mpr ⟨⟨d45Ok, d92Ok⟩, List.forall_mem_cons.mpr ⟨⟨d48Ok, d93Ok⟩, List.forall_mem_cons.mpr ⟨⟨d50Ok, d94Ok⟩, List.forall_mem_cons.mpr ⟨⟨d50Ok, d95Ok⟩, List.forall_mem_cons.mpr ⟨⟨d53Ok, d96Ok⟩, fun _ h => nomatch h⟩⟩⟩⟩⟩⟩⟩⟩⟩⟩⟩⟩)
noncomputable def cA3c2 : List Cs3 := [⟨1, 3, 1, d55, d96⟩, ⟨1, 3, 2, d56, d97⟩, ⟨1, 3, 3, d56, d98⟩, ⟨1, 3, 4, d59, d99⟩, ⟨1, 3, 5, d60, d100⟩, ⟨1, 3, 6, d60, d101⟩, ⟨1, 4, 0, d63, d102⟩, ⟨1, 4, 1, d65, d102⟩, ⟨1, 4, 2, d66, d103⟩, ⟨1, 4, 3, d66, d104⟩, ⟨1, 4, 4, d69, d105⟩, ⟨1, 4, 5, d70, d106⟩]
theorem cA3c2Ok : Good3 cA3c2 := good3 (by decide +kernel) (List.forall_mem_cons.mpr ⟨⟨d55Ok, d96Ok⟩, List.forall_mem_cons.mpr ⟨⟨d56Ok, d97Ok⟩, List.forall_mem_cons.mpr ⟨⟨d56Ok, d98Ok⟩, List.forall_mem_cons.mpr ⟨⟨d59Ok, d99Ok⟩, List.forall_mem_cons.mpr ⟨⟨d60Ok, d100Ok⟩, List.forall_mem_cons.mpr ⟨⟨d60Ok, d101Ok⟩, List.forall_mem_cons.mpr ⟨⟨d63Ok, d102Ok⟩, List.forall_mem_cons.mpr ⟨⟨d65Ok, d102Ok⟩, List.forall_mem_cons.mpr ⟨⟨d66Ok, d103Ok⟩, List.forall_mem_cons.mpr ⟨⟨d66Ok, d104Ok⟩, List.forall_mem_cons.mpr ⟨⟨d69Ok, d105Ok⟩, List.forall_mem_cons.mpr ⟨⟨d70Ok, d106Ok⟩, fun _ h => nomatch h⟩⟩⟩⟩⟩⟩⟩⟩⟩⟩⟩⟩)
noncomputable def cA3c3 : List Cs3 := [⟨1, 4, 6, d70, d107⟩, ⟨1, 5, 0, d73, d102⟩, ⟨1, 5, 1, d74, d102⟩, ⟨1, 5, 2, d75, d103⟩, ⟨1, 5, 3, d75, d104⟩, ⟨1, 5, 4, d76, d105⟩, ⟨1, 5, 5, d77, d106⟩, ⟨1, 5, 6, d77, d107⟩, ⟨1, 6, 0, d73, d102⟩, ⟨1, 6, 1, d74, d102⟩, ⟨1, 6, 2, d75, d103⟩, ⟨1, 6, 3, d75, d104⟩]
theorem cA3c3Ok : Good3 cA3c3 := good3 (by decide +kernel) (List.forall_mem_cons.mpr ⟨⟨d70Ok, d107Ok⟩, List.forall_mem_cons.mpr ⟨⟨d73Ok, d102Ok⟩, List.forall_mem_cons.mpr ⟨⟨d74Ok, d102Ok⟩, List.forall_mem_cons.mpr ⟨⟨d75Ok, d103Ok⟩, List.forall_mem_cons.mpr ⟨⟨d75Ok, d104Ok⟩, List.forall_mem_cons.mpr ⟨⟨d76Ok, d105Ok⟩, List.forall_mem_cons.mpr ⟨⟨d77Ok, d106Ok⟩, List.forall_mem_cons.mpr ⟨⟨d77Ok, d107Ok⟩, List.forall_mem_cons.mpr ⟨⟨d73Ok, d102Ok⟩, List.forall_mem_cons.mpr ⟨⟨d74Ok, d102Ok⟩, List.forall_mem_cons.mpr ⟨⟨d75Ok, d103Ok⟩, List.forall_mem_cons.mpr ⟨⟨d75Ok, d104Ok⟩, fun _ h => nomatch h⟩⟩⟩⟩⟩⟩⟩⟩⟩⟩⟩⟩)
noncomputable def cA3c4 : List Cs3 := [⟨1, 6, 4, d76, d105⟩, ⟨1, 6, 5, d77, d106⟩, ⟨1, 6, 6, d77, d107⟩, ⟨1, 6, 7, d77, d107⟩, ⟨1, 7, 6, d77, d107⟩]
theorem cA3c4Ok : Good3 cA3c4 := good3 (by decide +kernel) (List.forall_mem_cons.mpr ⟨⟨d76Ok, d105Ok⟩, List.forall_mem_cons.mpr ⟨⟨d77Ok, d106Ok⟩, List.forall_mem_cons.mpr ⟨⟨d77Ok, d107Ok⟩, List.forall_mem_cons.mpr ⟨⟨d77Ok, d107Ok⟩, List.forall_mem_cons.mpr ⟨⟨d77Ok, d107Ok⟩, fun _ h => nomatch h⟩⟩⟩⟩⟩)
noncomputable def cA3L : List Cs3 := cA3c0 ++ (cA3c1 ++ (cA3c2 ++ (cA3c3 ++ (cA3c4))))
theorem cA3LOk : Good3 cA3L := cA3c0Ok.append (cA3c1Ok.append (cA3c2Ok.append (cA3c3Ok.append (cA3c4Ok))))
noncomputable def cA4c0 : List Cs3 := [⟨2, -1, 0, d108, d78⟩, ⟨2, 0, -1, d109, d79⟩, ⟨2, 0, 0, d108, d79⟩, ⟨2, 0, 1, d110, d78⟩, ⟨2, 0, 2, d111, d80⟩, ⟨2, 0, 3, d111, d81⟩, ⟨2, 0, 4, d112, d81⟩, ⟨2, 0, 5, d113, d82⟩, ⟨2, 0, 6, d113, d83⟩, ⟨2, 1, 0, d109, d114⟩, ⟨2, 1, 1, d110, d114⟩, ⟨2, 1, 2, d111, d115⟩]
theorem cA4c0Ok : Good3 cA4c0 := good3 (by decide +kernel) (List.forall_mem_cons.mpr ⟨⟨d108Ok, d78Ok⟩, List.forall_mem_cons.mpr ⟨⟨d109Ok, d79Ok⟩, List.forall_mem_cons.mpr ⟨⟨d108Ok, d79Ok⟩, List.forall_mem_cons.mpr ⟨⟨d110Ok, d78Ok⟩, List.forall_mem_cons.mpr ⟨⟨d111Ok, d80Ok⟩, List.forall_mem_cons.mpr ⟨⟨d111Ok, d81Ok⟩, List.forall_mem_cons.mpr ⟨⟨d112Ok, d81Ok⟩, List.forall_mem_cons.mpr ⟨⟨d113Ok, d82Ok⟩, List.forall_mem_cons.mpr ⟨⟨d113Ok, d83Ok⟩, List.forall_mem_cons.mpr ⟨⟨d109Ok, d114Ok⟩, List.forall_mem_cons.mpr ⟨⟨d110Ok, d114Ok⟩, List.forall_mem_cons.mpr ⟨⟨d111Ok, d115Ok⟩, fun _ h => nomatch h⟩⟩⟩⟩⟩⟩⟩⟩⟩⟩⟩⟩)
noncomputable def cA4c1 : List Cs3 := [⟨2, 1, 3, d111, d116⟩, ⟨2, 1, 4, d112, d117⟩, ⟨2, 1, 5, d113, d118⟩, ⟨2, 1, 6, d113, d119⟩, ⟨2, 2, 0, d120, d121⟩, ⟨2, 2, 1, d122, d121⟩, ⟨2, 2, 2, d123, d124⟩, ⟨2, 2, 3, d123, d125⟩, ⟨2, 2, 4, d126, d127⟩, ⟨2, 2, 5, d128, d129⟩, ⟨2, 2, 6, d128, d130⟩, ⟨2, 3, 0, d131, d132⟩]
theorem cA4c1Ok : Good3 cA4c1 := good3 (by decide +kernel) (List.forall_mem_cons.mpr ⟨⟨d111Ok, d116Ok⟩, List.forall_mem_cons.mpr ⟨⟨d112Ok, d117Ok⟩, List.forall_mem_cons.mpr ⟨⟨d113Ok, d118Ok⟩, List.forall_mem_cons.mpr ⟨⟨d113Ok, d119Ok⟩, List.forall_mem_cons.mpr ⟨⟨d120Ok, d121Ok⟩, List.forall_mem_cons.mpr ⟨⟨d122Ok, d121Ok⟩, List.forall_mem_cons.mpr ⟨⟨d123Ok, d124Ok⟩, List.forall_mem_cons.mpr ⟨⟨d123Ok, d125Ok⟩, List.forall_mem_cons.mpr ⟨⟨d126Ok, d127Ok⟩, List.forall_mem_cons.mpr ⟨⟨d128Ok, d129Ok⟩, List.forall_mem_cons.mpr ⟨⟨d128Ok, d130Ok⟩, List.forall_mem_cons.mpr ⟨⟨d131Ok, d132Ok⟩, fun _ h => nomatch h⟩⟩⟩⟩⟩⟩⟩⟩⟩⟩⟩⟩)
noncomputable def cA4c2 : List Cs3 := [⟨2, 3, 1, d133, d132⟩, ⟨2, 3, 2, d134, d135⟩, ⟨2, 3, 3, d136, d137⟩, ⟨2, 3, 4, d138, d139⟩, ⟨2, 3, 5, d140, d141⟩, ⟨2, 3, 6, d140, d142⟩, ⟨2, 4, 0, d143, d144⟩, ⟨2, 4, 1, d145, d144⟩, ⟨2, 4, 2, d146, d147⟩, ⟨2, 4, 3, d146, d148⟩, ⟨2, 4, 4, d149, d150⟩, ⟨2, 4, 5, d151, d152⟩]
theorem cA4c2Ok : Good3 cA4c2 := good3 (by decide +kernel) (List.forall_mem_cons.mpr ⟨⟨d133Ok, d132Ok⟩, List.forall_mem_cons.mpr ⟨⟨d134Ok, d135Ok⟩, List.forall_mem_cons.mpr ⟨⟨d136Ok, d137Ok⟩, List.forall_mem_cons.mpr ⟨⟨d138Ok, d139Ok⟩, List.forall_mem_cons.mpr ⟨⟨d140Ok, d141Ok⟩, List.forall_mem_cons.mpr ⟨⟨d140Ok, d142Ok⟩, List.forall_mem_cons.mpr ⟨⟨d143Ok, d144Ok⟩, List.forall_mem_cons.mpr ⟨⟨d145Ok, d144Ok⟩, List.forall_mem_cons.mpr ⟨⟨d146Ok, d147Ok⟩, List.forall_mem_cons.mpr ⟨⟨d146Ok, d148Ok⟩, List.forall_mem_cons.mpr ⟨⟨d149Ok, d150Ok⟩, List.forall_mem_cons.mpr ⟨⟨d151Ok, d152Ok⟩, fun _ h => nomatch h⟩⟩⟩⟩⟩⟩⟩⟩⟩⟩⟩⟩)
noncomputable def cA4c3 : List Cs3 := [⟨2, 4, 6, d151, d153⟩, ⟨2, 5, 0, d154, d144⟩, ⟨2, 5, 1, d155, d144⟩, ⟨2, 5, 2, d156, d147⟩, ⟨2, 5, 3, d156, d148⟩, ⟨2, 5, 4, d157, d150⟩, ⟨2, 5, 5, d158, d152⟩, ⟨2, 5, 6, d158, d153⟩, ⟨2, 6, 0, d154, d144⟩, ⟨2, 6, 1, d155, d144⟩, ⟨2, 6, 2, d156, d147⟩, ⟨2, 6, 3, d156, d148⟩]
theorem cA4c3Ok : Good3 cA4c3 := good3 (by decide +kernel) (List.forall_mem_cons.mpr ⟨⟨d151Ok, d153Ok⟩, List.forall_mem_cons.mpr ⟨⟨d154Ok, d144Ok⟩, List.forall_mem_cons.mpr ⟨⟨d155Ok, d144Ok⟩, List.forall_mem_cons.mpr ⟨⟨d156Ok, d147Ok⟩, List.forall_mem_cons.mpr ⟨⟨d156Ok, d148Ok⟩, List.forall_mem_cons.mpr ⟨⟨d157Ok, d150Ok⟩, List.forall_mem_cons.mpr ⟨⟨d158Ok, d152Ok⟩, List.forall_mem_cons.mpr ⟨⟨d158Ok, d153Ok⟩, List.forall_mem_cons.mpr ⟨⟨d154Ok, d144Ok⟩, List.forall_mem_cons.mpr ⟨⟨d155Ok, d144Ok⟩, List.forall_mem_cons.mpr ⟨⟨d156Ok, d147Ok⟩, List.forall_mem_cons.mpr ⟨⟨d156Ok, d148Ok⟩, fun _ h => nomatch h⟩⟩⟩⟩⟩⟩⟩⟩⟩⟩⟩⟩)
noncomputable def cA4c4 : List Cs3 := [⟨2, 6, 4, d157, d150⟩, ⟨2, 6, 5, d158, d152⟩, ⟨2, 6, 6, d158, d153⟩, ⟨2, 6, 7, d158, d153⟩, ⟨2, 7, 6, d158, d153⟩]
theorem cA4c4Ok : Good3 cA4c4 := good3 (by decide +kernel) (List.forall_mem_cons.mpr ⟨⟨d157Ok, d150Ok⟩, List.forall_mem_cons.mpr ⟨⟨d158Ok, d152Ok⟩, List.forall_mem_cons.mpr ⟨⟨d158Ok, d153Ok⟩, List.forall_mem_cons.mpr ⟨⟨d158Ok, d153Ok⟩, List.forall_mem_cons.mpr ⟨⟨d158Ok, d153Ok⟩, fun _ h => nomatch h⟩⟩⟩⟩⟩)
noncomputable def cA4L : List Cs3 := cA4c0 ++ (cA4c1 ++ (cA4c2 ++ (cA4c3 ++ (cA4c4))))
theorem cA4LOk : Good3 cA4L := cA4c0Ok.append (cA4c1Ok.append (cA4c2Ok.append (cA4c3Ok.append (cA4c4Ok))))
noncomputable def cA5c0 : List Cs3 := [⟨3, -1, 0, d108, d159⟩, ⟨3, 0, -1, d109, d160⟩, ⟨3, 0, 0, d108, d160⟩, ⟨3, 0, 1, d110, d159⟩, ⟨3, 0, 2, d111, d161⟩, ⟨3, 0, 3, d111, d162⟩, ⟨3, 0, 4, d112, d162⟩, ⟨3, 0, 5, d113, d163⟩, ⟨3, 0, 6, d113, d164⟩, ⟨3, 1, 0, d109, d165⟩, ⟨3, 1, 1, d110, d165⟩, ⟨3, 1, 2, d111, d166⟩]
theorem cA5c0Ok : Good3 cA5c0 := good3 (by decide +kernel) (List.forall_mem_cons.mpr ⟨⟨d108Ok, d159Ok⟩, List.forall_mem_cons.mpr ⟨⟨d109Ok, d160Ok⟩, List.forall_mem_cons.mpr ⟨⟨d108Ok, d160Ok⟩, List.forall_mem_cons.mpr ⟨⟨d110Ok, d159Ok⟩, List.forall_mem_cons.mpr ⟨⟨d111Ok, d161Ok⟩, List.forall_mem_cons.mpr ⟨⟨d111Ok, d162Ok⟩, List.forall_mem_cons.mpr ⟨⟨d112Ok, d162Ok⟩, List.forall_mem_cons.mpr ⟨⟨d113Ok, d163Ok⟩, List.forall_mem_cons.mpr ⟨⟨d113Ok, d164Ok⟩, List.forall_mem_cons.mpr ⟨⟨d109Ok, d165Ok⟩, List.forall_mem_cons.mpr ⟨⟨d110Ok, d165Ok⟩, List.forall_mem_cons.mpr ⟨⟨d111Ok, d166Ok⟩, fun _ h => nomatch h⟩⟩⟩⟩⟩⟩⟩⟩⟩⟩⟩⟩)
noncomputable def cA5c1 : List Cs3 := [⟨3, 1, 3, d111, d167⟩, ⟨3, 1, 4, d112, d168⟩, ⟨3, 1, 5, d113, d169⟩, ⟨3, 1, 6, d113, d170⟩, ⟨3, 2, 0, d171, d172⟩, ⟨3, 2, 1, d173, d172⟩, ⟨3, 2, 2, d174, d175⟩, ⟨3, 2, 3, d174, d176⟩, ⟨3, 2, 4, d177, d178⟩, ⟨3, 2, 5, d179, d180⟩, ⟨3, 2, 6, d179, d181⟩, ⟨3, 3, 0, d182, d183⟩]
theorem cA5c1Ok : Good3 cA5c1 := good3 (by decide +kernel) (List.forall_mem_cons.mpr ⟨⟨d111Ok, d167Ok⟩, List.forall_mem_cons.mpr ⟨⟨d112Ok, d168Ok⟩, List.forall_mem_cons.mpr ⟨⟨d113Ok, d169Ok⟩, List.forall_mem_cons.mpr ⟨⟨d113Ok, d170Ok⟩, List.forall_mem_cons.mpr ⟨⟨d171Ok, d172Ok⟩, List.forall_mem_cons.mpr ⟨⟨d173Ok, d172Ok⟩, List.forall_mem_cons.mpr ⟨⟨d174Ok, d175Ok⟩, List.forall_mem_cons.mpr ⟨⟨d174Ok, d176Ok⟩, List.forall_mem_cons.mpr ⟨⟨d177Ok, d178Ok⟩, List.forall_mem_cons.mpr ⟨⟨d179Ok, d180Ok⟩, List.forall_mem_cons.mpr ⟨⟨d179Ok, d181Ok⟩, List.forall_mem_cons.mpr ⟨⟨d182Ok, d183Ok⟩, fun _ h => nomatch h⟩⟩⟩⟩⟩⟩⟩⟩⟩⟩⟩⟩)
noncomputable def cA5c2 : List Cs3 := [⟨3, 3, 1, d184, d183⟩, ⟨3, 3, 2, d185, d186⟩, ⟨3, 3, 3, d187, d188⟩, ⟨3, 3, 4, d189, d188⟩, ⟨3, 3, 5, d190, d191⟩, ⟨3, 3, 6, d190, d192⟩, ⟨3, 4, 0, d193, d194⟩, ⟨3, 4, 1, d195, d194⟩, ⟨3, 4, 2, d196, d197⟩, ⟨3, 4, 3, d196, d198⟩, ⟨3, 4, 4, d199, d198⟩, ⟨3, 4, 5, d200, d201⟩]
theorem cA5c2Ok : Good3 cA5c2 := good3 (by decide +kernel) (List.forall_mem_cons.mpr ⟨⟨d184Ok, d183Ok⟩, List.forall_mem_cons.mpr ⟨⟨d185Ok, d186Ok⟩, List.forall_mem_cons.mpr ⟨⟨d187Ok, d188Ok⟩, List.forall_mem_cons.mpr ⟨⟨d189Ok, d188Ok⟩, List.forall_mem_cons.mpr ⟨⟨d190Ok, d191Ok⟩, List.forall_mem_cons.mpr ⟨⟨d190Ok, d192Ok⟩, List.forall_mem_cons.mpr ⟨⟨d193Ok, d194Ok⟩, List.forall_mem_cons.mpr ⟨⟨d195Ok, d194Ok⟩, List.forall_mem_cons.mpr ⟨⟨d196Ok, d197Ok⟩, List.forall_mem_cons.mpr ⟨⟨d196Ok, d198Ok⟩, List.forall_mem_cons.mpr ⟨⟨d199Ok, d198Ok⟩, List.forall_mem_cons.mpr ⟨⟨d200Ok, d201Ok⟩, fun _ h => nomatch h⟩⟩⟩⟩⟩⟩⟩⟩⟩⟩⟩⟩)
noncomputable def cA5c3 : List Cs3 := [⟨3, 4, 6, d200, d202⟩, ⟨3, 5, 0, d203, d204⟩, ⟨3, 5, 1, d205, d204⟩, ⟨3, 5, 2, d206, d207⟩, ⟨3, 5, 3, d206, d208⟩, ⟨3, 5, 4, d209, d208⟩, ⟨3, 5, 5, d210, d211⟩, ⟨3, 5, 6, d210, d212⟩, ⟨3, 6, 0, d203, d204⟩, ⟨3, 6, 1, d205, d204⟩, ⟨3, 6, 2, d206, d207⟩, ⟨3, 6, 3, d206, d208⟩]
theorem cA5c3Ok : Good3 cA5c3 := good3 (by decide +kernel) (List.forall_mem_cons.mpr ⟨⟨d200Ok, d202Ok⟩, List.forall_mem_cons.mpr ⟨⟨d203Ok, d204Ok⟩, List.forall_mem_cons.mpr ⟨⟨d205Ok, d204Ok⟩, List.forall_mem_cons.mpr ⟨⟨d206Ok, d207Ok⟩, List.forall_mem_cons.mpr ⟨⟨d206Ok, d208Ok⟩, List.forall_mem_cons.mpr ⟨⟨d209Ok, d208Ok⟩, List.forall_mem_cons.mpr ⟨⟨d210Ok, d211Ok⟩, List.forall_mem_cons.mpr ⟨⟨d210Ok, d212Ok⟩, List.forall_mem_cons.mpr ⟨⟨d203Ok, d204Ok⟩, List.forall_mem_cons.mpr ⟨⟨d205Ok, d204Ok⟩, List.forall_mem_cons.mpr ⟨⟨d206Ok, d207Ok⟩, List.forall_mem_cons.mpr ⟨⟨d206Ok, d208Ok⟩, fun _ h => nomatch h⟩⟩⟩⟩⟩⟩⟩⟩⟩⟩⟩⟩)
noncomputable def cA5c4 : List Cs3 := [⟨3, 6, 4, d209, d208⟩, ⟨3, 6, 5, d210, d211⟩, ⟨3, 6, 6, d210, d212⟩, ⟨3, 6, 7, d210, d212⟩, ⟨3, 7, 6, d210, d212⟩]
theorem cA5c4Ok : Good3 cA5c4 := good3 (by decide +kernel) (List.forall_mem_cons.mpr ⟨⟨d209Ok, d208Ok⟩, List.forall_mem_cons.mpr ⟨⟨d210Ok, d211Ok⟩, List.forall_mem_cons.mpr ⟨⟨d210Ok, d212Ok⟩, List.forall_mem_cons.mpr ⟨⟨d210Ok, d212Ok⟩, List.forall_mem_cons.mpr ⟨⟨d210Ok, d212Ok⟩, fun _ h => nomatch h⟩⟩⟩⟩⟩)
noncomputable def cA5L : List Cs3 := cA5c0 ++ (cA5c1 ++ (cA5c2 ++ (cA5c3 ++ (cA5c4))))
theorem cA5LOk : Good3 cA5L := cA5c0Ok.append (cA5c1Ok.append (cA5c2Ok.append (cA5c3Ok.append (cA5c4Ok))))
noncomputable def cA6c0 : List Cs3 := [⟨4, -1, 0, d213, d159⟩, ⟨4, 0, -1, d214, d160⟩, ⟨4, 0, 0, d213, d160⟩, ⟨4, 0, 1, d215, d159⟩, ⟨4, 0, 2, d216, d161⟩, ⟨4, 0, 3, d216, d162⟩, ⟨4, 0, 4, d217, d162⟩, ⟨4, 0, 5, d218, d163⟩, ⟨4, 0, 6, d218, d164⟩, ⟨4, 1, 0, d214, d165⟩, ⟨4, 1, 1, d215, d165⟩, ⟨4, 1, 2, d216, d166⟩]
theorem cA6c0Ok : Good3 cA6c0 := good3 (by decide +kernel) (List.forall_mem_cons.mpr ⟨⟨d213Ok, d159Ok⟩, List.forall_mem_cons.mpr ⟨⟨d214Ok, d160Ok⟩, List.forall_mem_cons.mpr ⟨⟨d213Ok, d160Ok⟩, List.forall_mem_cons.mpr ⟨⟨d215Ok, d159Ok⟩, List.forall_mem_cons.mpr ⟨⟨d216Ok, d161Ok⟩, List.forall_mem_cons.mpr ⟨⟨d216Ok, d162Ok⟩, List.forall_mem_cons.mpr ⟨⟨d217Ok, d162Ok⟩, List.forall_mem_cons.mpr ⟨⟨d218Ok, d163Ok⟩, List.forall_mem_cons.mpr ⟨⟨d218Ok, d164Ok⟩, List.forall_mem_cons.mpr ⟨⟨d214Ok, d165Ok⟩, List.forall_mem_cons.mpr ⟨⟨d215Ok, d165Ok⟩, List.forall_mem_cons.mpr ⟨⟨d216Ok, d166Ok⟩, fun _ h => nomatch h⟩⟩⟩⟩⟩⟩⟩⟩⟩⟩⟩⟩)
noncomputable def cA6c1 : List Cs3 := [⟨4, 1, 3, d216, d167⟩, ⟨4, 1, 4, d217, d168⟩, ⟨4, 1, 5, d218, d169⟩, ⟨4, 1, 6, d218, d170⟩, ⟨4, 2, 0, d219, d172⟩, ⟨4, 2, 1, d220, d172⟩, ⟨4, 2, 2, d221, d175⟩, ⟨4, 2, 3, d221, d176⟩, ⟨4, 2, 4, d222, d178⟩, ⟨4, 2, 5, d223, d180⟩, ⟨4, 2, 6, d223, d181⟩, ⟨4, 3, 0, d224, d225⟩]
theorem cA6c1Ok : Good3 cA6c1 := good3 (by decide +kernel) (List.forall_mem_cons.mpr ⟨⟨d216Ok, d167Ok⟩, List.forall_mem_cons.mpr ⟨⟨d217Ok, d168Ok⟩, List.forall_mem_cons.mpr ⟨⟨d218Ok, d169Ok⟩, List.forall_mem_cons.mpr ⟨⟨d218Ok, d170Ok⟩, List.forall_mem_cons.mpr ⟨⟨d219Ok, d172Ok⟩, List.forall_mem_cons.mpr ⟨⟨d220Ok, d172Ok⟩, List.forall_mem_cons.mpr ⟨⟨d221Ok, d175Ok⟩, List.forall_mem_cons.mpr ⟨⟨d221Ok, d176Ok⟩, List.forall_mem_cons.mpr ⟨⟨d222Ok, d178Ok⟩, List.forall_mem_cons.mpr ⟨⟨d223Ok, d180Ok⟩, List.forall_mem_cons.mpr ⟨⟨d223Ok, d181Ok⟩, List.forall_mem_cons.mpr ⟨⟨d224Ok, d225Ok⟩, fun _ h => nomatch h⟩⟩⟩⟩⟩⟩⟩⟩⟩⟩⟩⟩)
noncomputable def cA6c2 : List Cs3 := [⟨4, 3, 1, d226, d225⟩, ⟨4, 3, 2, d227, d228⟩, ⟨4, 3, 3, d227, d229⟩, ⟨4, 3, 4, d230, d229⟩, ⟨4, 3, 5, d231, d232⟩, ⟨4, 3, 6, d231, d233⟩, ⟨4, 4, 0, d234, d235⟩, ⟨4, 4, 1, d236, d235⟩, ⟨4, 4, 2, d237, d238⟩, ⟨4, 4, 3, d237, d239⟩, ⟨4, 4, 4, d240, d239⟩, ⟨4, 4, 5, d241, d242⟩]
theorem cA6c2Ok : Good3 cA6c2 := good3 (by decide +kernel) (List.forall_mem_cons.mpr ⟨⟨d226Ok, d225Ok⟩, List.forall_mem_cons.mpr ⟨⟨d227Ok, d228Ok⟩, List.forall_mem_cons.mpr ⟨⟨d227Ok, d229Ok⟩, List.forall_mem_cons.mpr ⟨⟨d230Ok, d229Ok⟩, List.forall_mem_cons.mpr ⟨⟨d231Ok, d232Ok⟩, List.forall_mem_cons.mpr ⟨⟨d231Ok, d233Ok⟩, List.forall_mem_cons.mpr ⟨⟨d234Ok, d235Ok⟩, List.forall_mem_cons.mpr ⟨⟨d236Ok, d235Ok⟩, List.forall_mem_cons.mpr ⟨⟨d237Ok, d238Ok⟩, List.forall_mem_cons.mpr ⟨⟨d237Ok, d239Ok⟩, List.forall_mem_cons.mpr ⟨⟨d240Ok, d239Ok⟩, List.forall_mem_cons.mpr ⟨⟨d241Ok, d242Ok⟩, fun _ h => nomatch h⟩⟩⟩⟩⟩⟩⟩⟩⟩⟩⟩⟩)
noncomputable def cA6c3 : List Cs3 := [⟨4, 4, 6, d241, d243⟩, ⟨4, 5, 0, d244, d245⟩, ⟨4, 5, 1, d246, d245⟩, ⟨4, 5, 2, d247, d248⟩, ⟨4, 5, 3, d247, d249⟩, ⟨4, 5, 4, d250, d249⟩, ⟨4, 5, 5, d251, d252⟩, ⟨4, 5, 6, d251, d253⟩, ⟨4, 6, 0, d244, d245⟩, ⟨4, 6, 1, d246, d245⟩, ⟨4, 6, 2, d247, d248⟩, ⟨4, 6, 3, d247, d249⟩]
theorem cA6c3Ok : Good3 cA6c3 := good3 (by decide +kernel) (List.forall_mem_cons.mpr ⟨⟨d241Ok, d243Ok⟩, List.forall_mem_cons.mpr ⟨⟨d244Ok, d245Ok⟩, List.forall_mem_cons.mpr ⟨⟨d246Ok, d245Ok⟩, List.forall_mem_cons.mpr ⟨⟨d247Ok, d248Ok⟩, List.forall_mem_cons.mpr ⟨⟨d247Ok, d249Ok⟩, List.forall_mem_cons.mpr ⟨⟨d250Ok, d249Ok⟩, List.forall_mem_cons.mpr ⟨⟨d251Ok, d252Ok⟩, List.forall_mem_cons.mpr ⟨⟨d251Ok, d253Ok⟩, List.forall_mem_cons.mpr ⟨⟨d244Ok, d245Ok⟩, List.forall_mem_cons.mpr ⟨⟨d246Ok, d245Ok⟩, List.forall_mem_cons.mpr ⟨⟨d247Ok, d248Ok⟩, List.forall_mem_cons.mpr ⟨⟨d247Ok, d249Ok⟩, fun _ h => nomatch h⟩⟩⟩⟩⟩⟩⟩⟩⟩⟩⟩⟩)
noncomputable def cA6c4 : List Cs3 := [⟨4, 6, 4, d250, d249⟩, ⟨4, 6, 5, d251, d252⟩, ⟨4, 6, 6, d251, d253⟩, ⟨4, 6, 7, d251, d253⟩, ⟨4, 7, 6, d251, d253⟩]
theorem cA6c4Ok : Good3 cA6c4 := good3 (by decide +kernel) (List.forall_mem_cons.mpr ⟨⟨d250Ok, d249Ok⟩, List.forall_mem_cons.mpr ⟨⟨d251Ok, d252Ok⟩, List.forall_mem_cons.mpr ⟨⟨d251Ok, d253Ok⟩, List.forall_mem_cons.mpr ⟨⟨d251Ok, d253Ok⟩, List.forall_mem_cons.mpr ⟨⟨d251Ok, d253Ok⟩, fun _ h => nomatch h⟩⟩⟩⟩⟩)
noncomputable def cA6L : List Cs3 := cA6c0 ++ (cA6c1 ++ (cA6c2 ++ (cA6c3 ++ (cA6c4))))
theorem cA6LOk : Good3 cA6L := cA6c0Ok.append (cA6c1Ok.append (cA6c2Ok.append (cA6c3Ok.append (cA6c4Ok))))
noncomputable def cA7c0 : List Cs3 := [⟨5, -1, 0, d213, d159⟩, ⟨5, 0, -1, d214, d160⟩, ⟨5, 0, 0, d213, d160⟩, ⟨5, 0, 1, d215, d159⟩, ⟨5, 0, 2, d216, d161⟩, ⟨5, 0, 3, d216, d162⟩, ⟨5, 0, 4, d217, d162⟩, ⟨5, 0, 5, d218, d163⟩, ⟨5, 0, 6, d218, d164⟩, ⟨5, 1, 0, d214, d165⟩, ⟨5, 1, 1, d215, d165⟩, ⟨5, 1, 2, d216, d166⟩]
theorem cA7c0Ok : Good3 cA7c0 := good3 (by decide +kernel) (List.forall_mem_cons.mpr ⟨⟨d213Ok, d159Ok⟩, List.forall_mem_cons.mpr ⟨⟨d214Ok, d160Ok⟩, List.forall_mem_cons.mpr ⟨⟨d213Ok, d160Ok⟩, List.forall_mem_cons.mpr ⟨⟨d215Ok, d159Ok⟩, List.forall_mem_cons.mpr ⟨⟨d216Ok, d161Ok⟩, List.forall_mem_cons.mpr ⟨⟨d216Ok, d162Ok⟩, List.forall_mem_cons.mpr ⟨⟨d217Ok, d162Ok⟩, List.forall_mem_cons.mpr ⟨⟨d218Ok, d163Ok⟩, List.forall_mem_cons.mpr ⟨⟨d218Ok, d164Ok⟩, List.forall_mem_cons.mpr ⟨⟨d214Ok, d165Ok⟩, List.forall_mem_cons.mpr ⟨⟨d215Ok, d165Ok⟩, List.forall_mem_cons.mpr ⟨⟨d216Ok, d166Ok⟩, fun _ h => nomatch h⟩⟩⟩⟩⟩⟩⟩⟩⟩⟩⟩⟩)
noncomputable def cA7c1 : List Cs3 := [⟨5, 1, 3, d216, d167⟩, ⟨5, 1, 4, d217, d168⟩, ⟨5, 1, 5, d218, d169⟩, ⟨5, 1, 6, d218, d170⟩, ⟨5, 2, 0, d219, d172⟩, ⟨5, 2, 1, d220, d172⟩, ⟨5, 2, 2, d221, d175⟩, ⟨5, 2, 3, d221, d176⟩, ⟨5, 2, 4, d222, d178⟩, ⟨5, 2, 5, d223, d180⟩, ⟨5, 2, 6, d223, d181⟩, ⟨5, 3, 0, d224, d225⟩]
theorem cA7c1Ok : Good3 cA7c1 := good3 (by decide +kernel) (List.forall_mem_cons.mpr ⟨⟨d216Ok, d167Ok⟩, List.forall_mem_cons.mpr ⟨⟨d217Ok, d168Ok⟩, List.forall_mem_cons.mpr ⟨⟨d218Ok, d169Ok⟩, List.forall_mem_cons.mpr ⟨⟨d218Ok, d170Ok⟩, List.forall_mem_cons.mpr ⟨⟨d219Ok, d172Ok⟩, List.forall_mem_cons.mpr ⟨⟨d220Ok, d172Ok⟩, List.forall_mem_cons.mpr ⟨⟨d221Ok, d175Ok⟩, List.forall_mem_cons.mpr ⟨⟨d221Ok, d176Ok⟩, List.forall_mem_cons.mpr ⟨⟨d222Ok, d178Ok⟩, List.forall_mem_cons.mpr ⟨⟨d223Ok, d180Ok⟩, List.forall_mem_cons.mpr ⟨⟨d223Ok, d181Ok⟩, List.forall_mem_cons.mpr ⟨⟨d224Ok, d225Ok⟩, fun _ h => nomatch h⟩⟩⟩⟩⟩⟩⟩⟩⟩⟩⟩⟩)
noncomputable def cA7c2 : List Cs3 := [⟨5, 3, 1, d226, d225⟩, ⟨5, 3, 2, d227, d228⟩, ⟨5, 3, 3, d227, d229⟩, ⟨5, 3, 4, d230, d229⟩, ⟨5, 3, 5, d231, d232⟩, ⟨5, 3, 6, d231, d233⟩, ⟨5, 4, 0, d254, d235⟩, ⟨5, 4, 1, d255, d235⟩, ⟨5, 4, 2, d256, d238⟩, ⟨5, 4, 3, d256, d239⟩, ⟨5, 4, 4, d257, d239⟩, ⟨5, 4, 5, d258, d242⟩]
theorem cA7c2Ok : Good3 cA7c2 := good3 (by decide +kernel) (List.forall_mem_cons.mpr ⟨⟨d226Ok, d225Ok⟩, List.forall_mem_cons.mpr ⟨⟨d227Ok, d228Ok⟩, List.forall_mem_cons.mpr ⟨⟨d227Ok, d229Ok⟩, List.forall_mem_cons.mpr ⟨⟨d230Ok, d229Ok⟩, List.forall_mem_cons.mpr ⟨⟨d231Ok, d232Ok⟩, List.forall_mem_cons.mpr ⟨⟨d231Ok, d233Ok⟩, List.forall_mem_cons.mpr ⟨⟨d254Ok, d235Ok⟩, List.forall_mem_cons.mpr ⟨⟨d255Ok, d235Ok⟩, List.forall_mem_cons.mpr ⟨⟨d256Ok, d238Ok⟩, List.forall_mem_cons.mpr ⟨⟨d256Ok, d239Ok⟩, List.forall_mem_cons.mpr ⟨⟨d257Ok, d239Ok⟩, List.forall_mem_cons.mpr ⟨⟨d258Ok, d242Ok⟩, fun _ h => nomatch h⟩⟩⟩⟩⟩⟩⟩⟩⟩⟩⟩⟩)
noncomputable def cA7c3 : List Cs3 := [⟨5, 4, 6, d258, d243⟩, ⟨5, 5, 0, d259, d235⟩, ⟨5, 5, 1, d260, d235⟩, ⟨5, 5, 2, d261, d238⟩, ⟨5, 5, 3, d261, d239⟩, ⟨5, 5, 4, d262, d239⟩, ⟨5, 5, 5, d263, d242⟩, ⟨5, 5, 6, d263, d243⟩, ⟨5, 6, 0, d259, d245⟩, ⟨5, 6, 1, d260, d245⟩, ⟨5, 6, 2, d261, d248⟩, ⟨5, 6, 3, d261, d249⟩]
theorem cA7c3Ok : Good3 cA7c3 := good3 (by decide +kernel) (List.forall_mem_cons.mpr ⟨⟨d258Ok, d243Ok⟩, List.forall_mem_cons.mpr ⟨⟨d259Ok, d235Ok⟩, List.forall_mem_cons.mpr ⟨⟨d260Ok, d235Ok⟩, List.forall_mem_cons.mpr ⟨⟨d261Ok, d238Ok⟩, List.forall_mem_cons.mpr ⟨⟨d261Ok, d239Ok⟩, List.forall_mem_cons.mpr ⟨⟨d262Ok, d239Ok⟩, List.forall_mem_cons.mpr ⟨⟨d263Ok, d242Ok⟩, List.forall_mem_cons.mpr ⟨⟨d263Ok, d243Ok⟩, List.forall_mem_cons.mpr ⟨⟨d259Ok, d245Ok⟩, List.forall_mem_cons.mpr ⟨⟨d260Ok, d245Ok⟩, List.forall_mem_cons.mpr ⟨⟨d261Ok, d248Ok⟩, List.forall_mem_cons.mpr ⟨⟨d261Ok, d249Ok⟩, fun _ h => nomatch h⟩⟩⟩⟩⟩⟩⟩⟩⟩⟩⟩⟩)
noncomputable def cA7c4 : List Cs3 := [⟨5, 6, 4, d262, d249⟩, ⟨5, 6, 5, d263, d252⟩, ⟨5, 6, 6, d263, d253⟩, ⟨5, 6, 7, d263, d253⟩, ⟨5, 7, 6, d263, d253⟩]
theorem cA7c4Ok : Good3 cA7c4 := good3 (by decide +kernel) (List.forall_mem_cons.mpr ⟨⟨d262Ok, d249Ok⟩, List.forall_mem_cons.mpr ⟨⟨d263Ok, d252Ok⟩, List.forall_mem_cons.mpr ⟨⟨d263Ok, d253Ok⟩, List.forall_mem_cons.mpr ⟨⟨d263Ok, d253Ok⟩, List.forall_mem_cons.mpr ⟨⟨d263Ok, d253Ok⟩, fun _ h => nomatch h⟩⟩⟩⟩⟩)
noncomputable def cA7L : List Cs3 := cA7c0 ++ (cA7c1 ++ (cA7c2 ++ (cA7c3 ++ (cA7c4))))
theorem cA7LOk : Good3 cA7L := cA7c0Ok.append (cA7c1Ok.append (cA7c2Ok.append (cA7c3Ok.append (cA7c4Ok))))
noncomputable def cA8c0 : List Cs3 := [⟨6, -1, 0, d213, d159⟩, ⟨6, 0, -1, d214, d160⟩, ⟨6, 0, 0, d213, d160⟩, ⟨6, 0, 1, d215, d159⟩, ⟨6, 0, 2, d216, d161⟩, ⟨6, 0, 3, d216, d162⟩, ⟨6, 0, 4, d217, d162⟩, ⟨6, 0, 5, d218, d163⟩, ⟨6, 0, 6, d218, d164⟩, ⟨6, 0, 7, d218, d164⟩, ⟨6, 1, 0, d214, d165⟩, ⟨6, 1, 1, d215, d165⟩]
theorem cA8c0Ok : Good3 cA8c0 := good3 (by decide +kernel) (List.forall_mem_cons.mpr ⟨⟨d213Ok, d159Ok⟩, List.forall_mem_cons.mpr ⟨⟨d214Ok, d160Ok⟩, List.forall_mem_cons.mpr ⟨⟨d213Ok, d160Ok⟩, List.forall_mem_cons.mpr ⟨⟨d215Ok, d159Ok⟩, List.forall_mem_cons.mpr ⟨⟨d216Ok, d161Ok⟩, List.forall_mem_cons.mpr ⟨⟨d216Ok, d162Ok⟩, List.forall_mem_cons.mpr ⟨⟨d217Ok, d162Ok⟩, List.forall_mem_cons.mpr ⟨⟨d218Ok, d163Ok⟩, List.forall_mem_cons.mpr ⟨⟨d218Ok, d164Ok⟩, List.forall_mem_cons.mpr ⟨⟨d218Ok, d164Ok⟩, List.forall_mem_cons.mpr ⟨⟨d214Ok, d165Ok⟩, List.forall_mem_cons.mpr ⟨⟨d215Ok, d165Ok⟩, fun _ h => nomatch h⟩⟩⟩⟩⟩⟩⟩⟩⟩⟩⟩⟩)
noncomputable def cA8c1 : List Cs3 := [⟨6, 1, 2, d216, d166⟩, ⟨6, 1, 3, d216, d167⟩, ⟨6, 1, 4, d217, d168⟩, ⟨6, 1, 5, d218, d169⟩, ⟨6, 1, 6, d218, d170⟩, ⟨6, 1, 7, d218, d170⟩, ⟨6, 2, 0, d219, d172⟩, ⟨6, 2, 1, d220, d172⟩, ⟨6, 2, 2, d221, d175⟩, ⟨6, 2, 3, d221, d176⟩, ⟨6, 2, 4, d222, d178⟩, ⟨6, 2, 5, d223, d180⟩]
theorem cA8c1Ok : Good3 cA8c1 := good3 (by decide +kernel) (List.forall_mem_cons.mpr ⟨⟨d216Ok, d166Ok⟩, List.forall_mem_cons.mpr ⟨⟨d216Ok, d167Ok⟩, List.forall_mem_cons.mpr ⟨⟨d217Ok, d168Ok⟩, List.forall_mem_cons.mpr ⟨⟨d218Ok, d169Ok⟩, List.forall_mem_cons.mpr ⟨⟨d218Ok, d170Ok⟩, List.forall_mem_cons.mpr ⟨⟨d218Ok, d170Ok⟩, List.forall_mem_cons.mpr ⟨⟨d219Ok, d172Ok⟩, List.forall_mem_cons.mpr ⟨⟨d220Ok, d172Ok⟩, List.forall_mem_cons.mpr ⟨⟨d221Ok, d175Ok⟩, List.forall_mem_cons.mpr ⟨⟨d221Ok, d176Ok⟩, List.forall_mem_cons.mpr ⟨⟨d222Ok, d178Ok⟩, List.forall_mem_cons.mpr ⟨⟨d223Ok, d180Ok⟩, fun _ h => nomatch h⟩⟩⟩⟩⟩⟩⟩⟩⟩⟩⟩⟩)
noncomputable def cA8c2 : List Cs3 := [⟨6, 2, 6, d223, d181⟩, ⟨6, 2, 7, d223, d181⟩, ⟨6, 3, 0, d224, d225⟩, ⟨6, 3, 1, d226, d225⟩, ⟨6, 3, 2, d227, d228⟩, ⟨6, 3, 3, d227, d229⟩, ⟨6, 3, 4, d230, d229⟩, ⟨6, 3, 5, d231, d232⟩, ⟨6, 3, 6, d231, d233⟩, ⟨6, 3, 7, d231, d233⟩, ⟨6, 4, 0, d254, d235⟩, ⟨6, 4, 1, d255, d235⟩]
theorem cA8c2Ok : Good3 cA8c2 := good3 (by decide +kernel) (List.forall_mem_cons.mpr ⟨⟨d223Ok, d181Ok⟩, List.forall_mem_cons.mpr ⟨⟨d223Ok, d181Ok⟩, List.forall_mem_cons.mpr ⟨⟨d224Ok, d225Ok⟩, List.forall_mem_cons.mpr ⟨⟨d226Ok, d225Ok⟩, List.forall_mem_cons.mpr ⟨⟨d227Ok, d228Ok⟩, List.forall_mem_cons.mpr ⟨⟨d227Ok, d229Ok⟩, List.forall_mem_cons.mpr ⟨⟨d230Ok, d229Ok⟩, List.forall_mem_cons.mpr ⟨⟨d231Ok, d232Ok⟩, List.forall_mem_cons.mpr ⟨⟨d231Ok, d233Ok⟩, List.forall_mem_cons.mpr ⟨⟨d231Ok, d233Ok⟩, List.forall_mem_cons.mpr ⟨⟨d254Ok, d235Ok⟩, List.forall_mem_cons.mpr ⟨⟨d255Ok, d235Ok⟩, fun _ h => nomatch h⟩⟩⟩⟩⟩⟩⟩⟩⟩⟩⟩⟩)
noncomputable def cA8c3 : List Cs3 := [⟨6, 4, 2, d256, d238⟩, ⟨6, 4, 3, d256, d239⟩, ⟨6, 4, 4, d257, d239⟩, ⟨6, 4, 5, d258, d242⟩, ⟨6, 4, 6, d258, d243⟩, ⟨6, 4, 7, d258, d243⟩, ⟨6, 5, 0, d264, d235⟩, ⟨6, 5, 1, d265, d235⟩, ⟨6, 5, 2, d266, d238⟩, ⟨6, 5, 3, d266, d239⟩, ⟨6, 5, 4, d267, d239⟩, ⟨6, 5, 5, d268, d242⟩]
theorem cA8c3Ok : Good3 cA8c3 := good3 (by decide +kernel) (List.forall_mem_cons.mpr ⟨⟨d256Ok, d238Ok⟩, List.forall_mem_cons.mpr ⟨⟨d256Ok, d239Ok⟩, List.forall_mem_cons.mpr ⟨⟨d257Ok, d239Ok⟩, List.forall_mem_cons.mpr ⟨⟨d258Ok, d242Ok⟩, List.forall_mem_cons.mpr ⟨⟨d258Ok, d243Ok⟩, List.forall_mem_cons.mpr ⟨⟨d258Ok, d243Ok⟩, List.forall_mem_cons.mpr ⟨⟨d264Ok, d235Ok⟩, List.forall_mem_cons.mpr ⟨⟨d265Ok, d235Ok⟩, List.forall_mem_cons.mpr ⟨⟨d266Ok, d238Ok⟩, List.forall_mem_cons.mpr ⟨⟨d266Ok, d239Ok⟩, List.forall_mem_cons.mpr ⟨⟨d267Ok, d239Ok⟩, List.forall_mem_cons.mpr ⟨⟨d268Ok, d242Ok⟩, fun _ h => nomatch h⟩⟩⟩⟩⟩⟩⟩⟩⟩⟩⟩⟩)
noncomputable def cA8c4 : List Cs3 := [⟨6, 5, 6, d268, d243⟩, ⟨6, 5, 7, d268, d243⟩, ⟨6, 6, 0, d259, d235⟩, ⟨6, 6, 1, d260, d235⟩, ⟨6, 6, 2, d261, d238⟩, ⟨6, 6, 3, d261, d239⟩, ⟨6, 6, 4, d262, d239⟩, ⟨6, 6, 5, d263, d242⟩, ⟨6, 6, 6, d263, d243⟩, ⟨6, 6, 7, d263, d243⟩, ⟨6, 7, 0, d259, d245⟩, ⟨6, 7, 1, d260, d245⟩]
theorem cA8c4Ok : Good3 cA8c4 := good3 (by decide +kernel) (List.forall_mem_cons.mpr ⟨⟨d268Ok, d243Ok⟩, List.forall_mem_cons.mpr ⟨⟨d268Ok, d243Ok⟩, List.forall_mem_cons.mpr ⟨⟨d259Ok, d235Ok⟩, List.forall_mem_cons.mpr ⟨⟨d260Ok, d235Ok⟩, List.forall_mem_cons.mpr ⟨⟨d261Ok, d238Ok⟩, List.forall_mem_cons.mpr ⟨⟨d261Ok, d239Ok⟩, List.forall_mem_cons.mpr ⟨⟨d262Ok, d239Ok⟩, List.forall_mem_cons.mpr ⟨⟨d263Ok, d242Ok⟩, List.forall_mem_cons.mpr ⟨⟨d263Ok, d243Ok⟩, List.forall_mem_cons.mpr ⟨⟨d263Ok, d243Ok⟩, List.forall_mem_cons.mpr ⟨⟨d259Ok, d245Ok⟩, List.forall_mem_cons.mpr ⟨⟨d260Ok, d245Ok⟩, fun _ h => nomatch h⟩⟩⟩⟩⟩⟩⟩⟩⟩⟩⟩⟩)
noncomputable def cA8c5 : List Cs3 := [⟨6, 7, 2, d261, d248⟩, ⟨6, 7, 3, d261, d249⟩, ⟨6, 7, 4, d262, d249⟩, ⟨6, 7, 5, d263, d252⟩, ⟨6, 7, 6, d263, d253⟩, ⟨6, 7, 7, d263, d253⟩, ⟨6, 7, 8, d263, d253⟩, ⟨6, 8, 7, d263, d253⟩]
theorem cA8c5Ok : Good3 cA8c5 := good3 (by decide +kernel) (List.forall_mem_cons.mpr ⟨⟨d261Ok, d248Ok⟩, List.forall_mem_cons.mpr ⟨⟨d261Ok, d249Ok⟩, List.forall_mem_cons.mpr ⟨⟨d262Ok, d249Ok⟩, List.forall_mem_cons.mpr ⟨⟨d263Ok, d252Ok⟩, List.forall_mem_cons.mpr ⟨⟨d263Ok, d253Ok⟩, List.forall_mem_cons.mpr ⟨⟨d263Ok, d253Ok⟩, List.forall_mem_cons.mpr ⟨⟨d263Ok, d253Ok⟩, List.forall_mem_cons.mpr ⟨⟨d263Ok, d253Ok⟩, fun _ h => nomatch h⟩⟩⟩⟩⟩⟩⟩⟩)
noncomputable def cA8L : List Cs3 := cA8c0 ++ (cA8c1 ++ (cA8c2 ++ (cA8c3 ++ (cA8c4 ++ (cA8c5)))))
theorem cA8LOk : Good3 cA8L := cA8c0Ok.append (cA8c1Ok.append (cA8c2Ok.append (cA8c3Ok.append (cA8c4Ok.append (cA8c5Ok)))))
noncomputable def cA9c0 : List Cs3 := [⟨7, 0, 6, d218, d164⟩, ⟨7, 1, 6, d218, d170⟩, ⟨7, 2, 6, d223, d181⟩, ⟨7, 3, 6, d231, d233⟩, ⟨7, 4, 6, d258, d243⟩, ⟨7, 5, 6, d268, d243⟩, ⟨7, 6, 0, d264, d235⟩, ⟨7, 6, 1, d265, d235⟩, ⟨7, 6, 2, d266, d238⟩, ⟨7, 6, 3, d266, d239⟩, ⟨7, 6, 4, d267, d239⟩, ⟨7, 6, 5, d268, d242⟩]
theorem cA9c0Ok : Good3 cA9c0 := good3 (by decide +kernel) (List.forall_mem_cons.mpr ⟨⟨d218Ok, d164Ok⟩, List.forall_mem_cons.mpr ⟨⟨d218Ok, d170Ok⟩, List.forall_mem_cons.mpr ⟨⟨d223Ok, d181Ok⟩, List.forall_mem_cons.mpr ⟨⟨d231Ok, d233Ok⟩, List.forall_mem_cons.mpr ⟨⟨d258Ok, d243Ok⟩, List.forall_mem_cons.mpr ⟨⟨d268Ok, d243Ok⟩, List.forall_mem_cons.mpr ⟨⟨d264Ok, d235Ok⟩, List.forall_mem_cons.mpr ⟨⟨d265Ok, d235Ok⟩, List.forall_mem_cons.mpr ⟨⟨d266Ok, d238Ok⟩, List.forall_mem_cons.mpr ⟨⟨d266Ok, d239Ok⟩, List.forall_mem_cons.mpr ⟨⟨d267Ok, d239Ok⟩, List.forall_mem_cons.mpr ⟨⟨d268Ok, d242Ok⟩, fun _ h => nomatch h⟩⟩⟩⟩⟩⟩⟩⟩⟩⟩⟩⟩)
noncomputable def cA9c1 : List Cs3 := [⟨7, 6, 6, d268, d243⟩, ⟨7, 6, 7, d268, d243⟩, ⟨7, 6, 8, d268, d243⟩, ⟨7, 7, 6, d263, d243⟩, ⟨7, 8, 6, d263, d253⟩]
theorem cA9c1Ok : Good3 cA9c1 := good3 (by decide +kernel) (List.forall_mem_cons.mpr ⟨⟨d268Ok, d243Ok⟩, List.forall_mem_cons.mpr ⟨⟨d268Ok, d243Ok⟩, List.forall_mem_cons.mpr ⟨⟨d268Ok, d243Ok⟩, List.forall_mem_cons.mpr ⟨⟨d263Ok, d243Ok⟩, List.forall_mem_cons.mpr ⟨⟨d263Ok, d253Ok⟩, fun _ h => nomatch h⟩⟩⟩⟩⟩)
noncomputable def cA9L : List Cs3 := cA9c0 ++ (cA9c1)
theorem cA9LOk : Good3 cA9L := cA9c0Ok.append (cA9c1Ok)
noncomputable def cA10c0 : List Cs3 := [⟨8, 6, 7, d268, d243⟩, ⟨8, 7, 6, d268, d243⟩]
theorem cA10c0Ok : Good3 cA10c0 := good3 (by decide +kernel) (List.forall_mem_cons.mpr ⟨⟨d268Ok, d243Ok⟩, List.forall_mem_cons.mpr ⟨⟨d268Ok, d243Ok⟩, fun _ h => nomatch h⟩⟩)
noncomputable def cA10L : List Cs3 := cA10c0
theorem cA10LOk : Good3 cA10L := cA10c0Ok
noncomputable def cBc0 : List Cs2 := [⟨-1, 0, d269⟩, ⟨0, -1, d270⟩, ⟨0, 0, d269⟩, ⟨0, 1, d269⟩, ⟨0, 2, d271⟩, ⟨0, 3, d272⟩, ⟨0, 4, d273⟩, ⟨0, 5, d274⟩, ⟨0, 6, d274⟩, ⟨1, 0, d270⟩, ⟨1, 1, d269⟩, ⟨1, 2, d271⟩, ⟨1, 3, d272⟩, ⟨1, 4, d273⟩, ⟨1, 5, d274⟩, ⟨1, 6, d274⟩, ⟨2, 0, d275⟩, ⟨2, 1, d275⟩, ⟨2, 2, d276⟩, ⟨2, 3, d277⟩]
theorem cBc0Ok : Good2 cBc0 := good2 (by decide +kernel) (List.forall_mem_cons.mpr ⟨d269Ok, List.forall_mem_cons.mpr ⟨d270Ok, List.forall_mem_cons.mpr ⟨d269Ok, List.forall_mem_cons.mpr ⟨d269Ok, List.forall_mem_cons.mpr ⟨d271Ok, List.forall_mem_cons.mpr ⟨d272Ok, List.forall_mem_cons.mpr ⟨d273Ok, List.forall_mem_cons.mpr ⟨d274Ok, List.forall_mem_cons.mpr ⟨d274Ok, List.forall_mem_cons.mpr ⟨d270Ok, List.forall_mem_cons.mpr ⟨d269Ok, List.forall_mem_cons.mpr ⟨d271Ok, List.forall_mem_cons.mpr ⟨d272Ok, List.forall_mem_cons.mpr ⟨d273Ok, List.forall_mem_cons.mpr ⟨d274Ok, List.forall_mem_cons.mpr ⟨d274Ok, List.forall_mem_cons.mpr ⟨d275Ok, List.forall_mem_cons.mpr ⟨d275Ok, List.forall_mem_cons.mpr ⟨d276Ok, List.forall_mem_cons.mpr ⟨d277Ok, fun _ h => nomatch h⟩⟩⟩⟩⟩⟩⟩⟩⟩⟩⟩⟩⟩⟩⟩⟩⟩⟩⟩⟩)
noncomputable def cBc1 : List Cs2 := [⟨2, 4, d278⟩, ⟨2, 5, d279⟩, ⟨2, 6, d279⟩, ⟨3, 0, d275⟩, ⟨3, 1, d275⟩, ⟨3, 2, d280⟩, ⟨3, 3, d281⟩, ⟨3, 4, d282⟩, ⟨3, 5, d283⟩, ⟨3, 6, d283⟩, ⟨4, 0, d284⟩, ⟨4, 1, d284⟩, ⟨4, 2, d285⟩, ⟨4, 3, d286⟩, ⟨4, 4, d287⟩, ⟨4, 5, d288⟩, ⟨4, 6, d288⟩, ⟨5, 0, d284⟩, ⟨5, 1, d284⟩, ⟨5, 2, d285⟩]
theorem cBc1Ok : Good2 cBc1 := good2 (by decide +kernel) (List.forall_mem_cons.mpr ⟨d278Ok, List.forall_mem_cons.mpr ⟨d279Ok, List.forall_mem_cons.mpr ⟨d279Ok, List.forall_mem_cons.mpr ⟨d275Ok, List.forall_mem_cons.mpr ⟨d275Ok, List.forall_mem_cons.mpr ⟨d280Ok, List.forall_mem_cons.mpr ⟨d281Ok, List.forall_mem_cons.mpr ⟨d282Ok, List.forall_mem_cons.mpr ⟨d283Ok, List.forall_mem_cons.mpr ⟨d283Ok, List.forall_mem_cons.mpr ⟨d284Ok, List.forall_mem_cons.mpr ⟨d284Ok, List.forall_mem_cons.mpr ⟨d285Ok, List.forall_mem_cons.mpr ⟨d286Ok, List.forall_mem_cons.mpr ⟨d287Ok, List.forall_mem_cons.mpr ⟨d288Ok, List.forall_mem_cons.mpr ⟨d288Ok, List.forall_mem_cons.mpr ⟨d284Ok, List.forall_mem_cons.mpr ⟨d284Ok, List.forall_mem_cons.mpr ⟨d285Ok, fun _ h => nomatch h⟩⟩⟩⟩⟩⟩⟩⟩⟩⟩⟩⟩⟩⟩⟩⟩⟩⟩⟩⟩)
noncomputable def cBc2 : List Cs2 := [⟨5, 3, d286⟩, ⟨5, 4, d289⟩, ⟨5, 5, d290⟩, ⟨5, 6, d290⟩, ⟨6, 0, d284⟩, ⟨6, 1, d284⟩, ⟨6, 2, d285⟩, ⟨6, 3, d286⟩, ⟨6, 4, d289⟩, ⟨6, 5, d291⟩, ⟨6, 6, d290⟩, ⟨6, 7, d290⟩, ⟨7, 6, d291⟩]
theorem cBc2Ok : Good2 cBc2 := good2 (by decide +kernel) (List.forall_mem_cons.mpr ⟨d286Ok, List.forall_mem_cons.mpr ⟨d289Ok, List.forall_mem_cons.mpr ⟨d290Ok, List.forall_mem_cons.mpr ⟨d290Ok, List.forall_mem_cons.mpr ⟨d284Ok, List.forall_mem_cons.mpr ⟨d284Ok, List.forall_mem_cons.mpr ⟨d285Ok, List.forall_mem_cons.mpr ⟨d286Ok, List.forall_mem_cons.mpr ⟨d289Ok, List.forall_mem_cons.mpr ⟨d291Ok, List.forall_mem_cons.mpr ⟨d290Ok, List.forall_mem_cons.mpr ⟨d290Ok, List.forall_mem_cons.mpr ⟨d291Ok, fun _ h => nomatch h⟩⟩⟩⟩⟩⟩⟩⟩⟩⟩⟩⟩⟩)
noncomputable def cBL : List Cs2 := cBc0 ++ (cBc1 ++ (cBc2))
theorem cBLOk : Good2 cBL := cBc0Ok.append (cBc1Ok.append (cBc2Ok))
noncomputable def cCc0 : List Cs1 := [⟨0, d292⟩, ⟨1, d293⟩, ⟨2, d294⟩, ⟨3, d295⟩, ⟨4, d296⟩, ⟨5, d296⟩, ⟨6, d296⟩]
theorem cCc0Ok : Good1 cCc0 := good1 (by decide +kernel) (List.forall_mem_cons.mpr ⟨d292Ok, List.forall_mem_cons.mpr ⟨d293Ok, List.forall_mem_cons.mpr ⟨d294Ok, List.forall_mem_cons.mpr ⟨d295Ok, List.forall_mem_cons.mpr ⟨d296Ok, List.forall_mem_cons.mpr ⟨d296Ok, List.forall_mem_cons.mpr ⟨d296Ok, fun _ h => nomatch h⟩⟩⟩⟩⟩⟩⟩)
noncomputable def cCL : List Cs1 := cCc0
theorem cCLOk : Good1 cCL := cCc0Ok
theorem c0Ok : chk [3, 4, 1, 2, 2, 5, 4] true d297 = true := by decide +kernel
noncomputable def dZ : Dat := d297
theorem dZOk : tailOk dZ = true := d297Ok
theorem cZOk : chk [3, 4, 1, 2, 2, 5, 4] true dZ = true := c0Ok
end Mine
end

section
open PySem PySem.W
set_option Elab.async false
set_option linter.unusedVariables false
set_option linter.unusedSectionVars false
set_option maxRecDepth 10000
set_option maxHeartbeats 4000000
namespace Mine
theorem chk_ok {row : List Int} {weak : Bool} {d : Dat} (h : chk row weak d = true) (ht : tailOk d = true) {row' : List Int} (e : OE row' row) : okLaw row' weak = true := by
  unfold chk at h
  simp only [Bool.and_eq_true, beq_iff_eq] at h
  obtain ⟨h2, h3⟩ := h
  have hh := headOk_of h3
  rw [← e.head] at hh
  rw [← h2]
  exact okLaw_of hh ht
theorem rng_has {x : Int} (h1 : -2 ≤ x) (h2 : x ≤ 8) : x ∈ rng (-2) 11 := by
  unfold rng
  exact List.mem_map.mpr ⟨(x + 2).toNat, List.mem_range.mpr (by omega), by omega⟩
noncomputable def isIn2 (a b : Int) : Bool := cBL.any fun e => e.a == a && e.b == b
noncomputable def isIn1 (a : Int) : Bool := cCL.any fun e => e.a == a
noncomputable def cover3 (l : List Cs3) (a : Int) : Bool := (rng (-2) 11).all fun b => (rng (-2) 11).all fun c => !fixB a b c || l.any fun e => e.a == a && e.b == b && e.c == c
theorem cov0 : cover3 cA0L (-2) = true := by decide +kernel
theorem cov1 : cover3 cA1L (-1) = true := by decide +kernel
theorem cov2 : cover3 cA2L (0) = true := by decide +kernel
theorem cov3 : cover3 cA3L (1) = true := by decide +kernel
theorem cov4 : cover3 cA4L (2) = true := by decide +kernel
theorem cov5 : cover3 cA5L (3) = true := by decide +kernel
theorem cov6 : cover3 cA6L (4) = true := by decide +kernel
theorem cov7 : cover3 cA7L (5) = true := by decide +kernel
theorem cov8 : cover3 cA8L (6) = true := by decide +kernel
theorem cov9 : cover3 cA9L (7) = true := by decide +kernel
theorem cov10 : cover3 cA10L (8) = true := by decide +kernel
theorem cov2s : ((rng (-2) 11).all fun a => (rng (-2) 11).all fun b => !fixB a b b || isIn2 a b) = true := by decide +kernel
theorem cov1s : ((rng (-2) 11).all fun a => !fixB a a a || isIn1 a) = true := by decide +kernel
theorem cov_all {a : Int} (h1 : -2 ≤ a) (h2 : a ≤ 8) : ∃ l, Good3 l ∧ cover3 l a = true := by
  have : a = -2 ∨ a = -1 ∨ a = 0 ∨ a = 1 ∨ a = 2 ∨ a = 3 ∨ a = 4 ∨ a = 5 ∨ a = 6 ∨ a = 7 ∨ a = 8 := by omega
  rcases this with rfl | rfl | rfl | rfl | rfl | rfl | rfl | rfl | rfl | rfl | rfl
  · exact ⟨_, cA0LOk, cov0⟩
  · exact ⟨_, cA1LOk, cov1⟩
  · exact ⟨_, cA2LOk, cov2⟩
  · exact ⟨_, cA3LOk, cov3⟩
  · exact ⟨_, cA4LOk, cov4⟩
  · exact ⟨_, cA5LOk, cov5⟩
  · exact ⟨_, cA6LOk, cov6⟩
  · exact ⟨_, cA7LOk, cov7⟩
  · exact ⟨_, cA8LOk, cov8⟩
  · exact ⟨_, cA9LOk, cov9⟩
  · exact ⟨_, cA10LOk, cov10⟩
theorem law3 (a b c : Int) (weak : Bool) : okLaw [a, b, 3, 4, 1, 2, 2, 5, 4, c] weak = true := by
  obtain ⟨a', b', c', hf, ra, rb, rc, ha, hb, hc, ab, ba, ac, ca, bc, cb⟩ := can_all a b c
  obtain ⟨l, gl, h⟩ := cov_all ra.1 ra.2
  unfold cover3 at h
  have h := List.all_eq_true.mp (List.all_eq_true.mp h _ (rng_has rb.1 rb.2)) _ (rng_has rc.1 rc.2)
  rw [hf, Bool.not_true, Bool.false_or] at h
  obtain ⟨e, he, hq⟩ := List.any_eq_true.mp h
  simp only [Bool.and_eq_true, beq_iff_eq] at hq
  obtain ⟨⟨rfl, rfl⟩, rfl⟩ := hq
  obtain ⟨hk, hd, hd'⟩ := gl e he
  unfold chk3 at hk
  rw [Bool.and_eq_true] at hk
  have oe : OE [a, b, 3, 4, 1, 2, 2, 5, 4, c] [e.a, e.b, 3, 4, 1, 2, 2, 5, 4, e.c] := by
    refine oe_of _ rfl (mem_vN (by simp [cons5]) rfl fun p hp => ?_) (oe3 ha hb hc ab ba ac ca bc cb)
    simp only [List.zip_cons_cons, List.zip_nil_right, List.mem_cons, List.not_mem_nil, or_false] at hp
    rcases hp with rfl | rfl | rfl | rfl | rfl | rfl | rfl | rfl | rfl | rfl <;> simp [cons5]
  cases weak with
  | true => exact chk_ok hk.1 hd oe
  | false => exact chk_ok hk.2 hd' oe
theorem law2 (a b : Int) : okLaw [a, b, 3, 4, 1, 2, 2, 5, 4] true = true := by
  obtain ⟨a', b', c', hf, ra, rb, rc, ha, hb, hc, ab, ba, ac, ca, bc, cb⟩ := can_all a b b
  have hbc : c' = b' := by omega
  subst hbc
  have h := List.all_eq_true.mp (List.all_eq_true.mp cov2s _ (rng_has ra.1 ra.2)) _ (rng_has rb.1 rb.2)
  rw [hf, Bool.not_true, Bool.false_or] at h
  unfold isIn2 at h
  obtain ⟨e, he, hq⟩ := List.any_eq_true.mp h
  simp only [Bool.and_eq_true, beq_iff_eq] at hq
  obtain ⟨rfl, rfl⟩ := hq
  obtain ⟨hk, hd⟩ := cBLOk e he
  unfold chk2 at hk
  refine chk_ok hk hd (oe_of _ rfl (mem_vN (by simp [cons5]) rfl fun p hp => ?_) (oe3 ha hb hc ab ba ac ca bc cb))
  simp only [List.zip_cons_cons, List.zip_nil_right, List.mem_cons, List.not_mem_nil, or_false] at hp
  rcases hp with rfl | rfl | rfl | rfl | rfl | rfl | rfl | rfl | rfl <;> simp [cons5]
theorem law1 (a : Int) : okLaw [a, 3, 4, 1, 2, 2, 5, 4] false = true := by
  obtain ⟨a', b', c', hf, ra, rb, rc, ha, hb, hc, ab, ba, ac, ca, bc, cb⟩ := can_all a a a
  have hbc : c' = b' := by omega
  have hba : b' = a' := by omega
  subst hbc hba
  have h := List.all_eq_true.mp cov1s _ (rng_has ra.1 ra.2)
  rw [hf, Bool.not_true, Bool.false_or] at h
  unfold isIn1 at h
  obtain ⟨e, he, hq⟩ := List.any_eq_true.mp h
  rw [beq_iff_eq] at hq
  subst hq
  obtain ⟨hk, hd⟩ := cCLOk e he
  unfold chk1 at hk
  refine chk_ok hk hd (oe_of _ rfl (mem_vN (by simp [cons5]) rfl fun p hp => ?_) (oe3 ha hb hc ab ba ac ca bc cb))
  simp only [List.zip_cons_cons, List.zip_nil_right, List.mem_cons, List.not_mem_nil, or_false] at hp
  rcases hp with rfl | rfl | rfl | rfl | rfl | rfl | rfl | rfl <;> simp [cons5]
theorem law0 : okLaw [3, 4, 1, 2, 2, 5, 4] true = true := chk_ok cZOk dZOk ⟨rfl, fun _ _ => Iff.rfl⟩
theorem rowS0 : rowS [] = [3, 4, 1, 2, 2, 5, 4] := by
  unfold rowS
  rw [pick_plain, pick_plain]
  rfl
theorem rowS1 (a : Int) : rowS [a] = [a, 3, 4, 1, 2, 2, 5, 4] := by
  unfold rowS
  rw [pick_plain, pick_plain]
  rfl
theorem rowS2 (a b : Int) : rowS [a, b] = [a, b, 3, 4, 1, 2, 2, 5, 4] := by
  unfold rowS
  rw [pick_plain, pick_plain]
  rfl
theorem weakS0 : weakS [] = true := by decide
theorem weakS1 (a : Int) : weakS [a] = false := by unfold weakS; rw [List.length_singleton]; decide
theorem weakS2 (a b : Int) : weakS [a, b] = true := by unfold weakS; rw [List.length_cons, List.length_singleton]; decide
/-- the plain law -/
theorem law_plain (xs : List Int) : okLaw (rowS xs) (weakS xs) = true := by
  match xs with
  | [] => rw [rowS0, weakS0]; exact law0
  | [a] => rw [rowS1, weakS1]; exact law1 a
  | [a, b] => rw [rowS2, weakS2]; exact law2 a b
  | a :: b :: c :: rest => rw [rowS3]; exact law3 a b c _
end Mine
end

theorem PySem.Challenge.cw_sc0053_01_holds : PySem.Challenge.rw_sc0053_01.Holds :=
  Mine.main Mine.law_plain
