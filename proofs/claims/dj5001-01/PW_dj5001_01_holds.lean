import PyProof.Rows.All
import Wide.All
import OpenK.AllK
import Wide.FinOn
import Lean
import PySem.Challenge.RW_dj5001_01

set_option Elab.async false

section -- Base
open PySem PySem.W PyProof.Rows PySem.Calls
set_option Elab.async false
set_option maxRecDepth 100000
set_option maxHeartbeats 1000000
namespace Mine

/-- all that stood stands -/
def Ext (h h' : Heap) : Prop := ∀ b o, h.get? b = some o → h'.get? b = some o
theorem Ext.refl (h : Heap) : Ext h h := fun _ _ e => e
theorem Ext.trans {h h' h'' : Heap} (a : Ext h h') (b : Ext h' h'') : Ext h h'' := fun x o e => b x o (a x o e)

/-- objects that nothing changes but list methods -/
def Firm (o : Obj) : Prop := (∃ xs n, o.data = .seq xs n) ∨ (o.cls = .type "range" ∧ ∃ f, o.data = .fields f)
/-- all firm objects that stood stand -/
def LExt (h h' : Heap) : Prop := ∀ b o, h.get? b = some o → Firm o → h'.get? b = some o
theorem LExt.refl (h : Heap) : LExt h h := fun _ _ e _ => e
theorem LExt.trans {h h' h'' : Heap} (a : LExt h h') (b : LExt h' h'') : LExt h h'' := fun x o e d => b x o (a x o e d) d
theorem Ext.l {h h' : Heap} (a : Ext h h') : LExt h h' := fun b o e _ => a b o e

theorem LExt.ofNs {h h' : Heap} {a : Addr} {m : Str → Option Value} (hn : h.Ns a m) (hs : Heap.SameBut a h h') : LExt h h' := by
  intro b o e d
  obtain ⟨o', es, ep, ho, hd, _⟩ := hn
  by_cases hb : b = a
  · subst hb; rw [ho] at e; cases e
    rcases d with ⟨xs, n, d⟩ | ⟨_, f, d⟩ <;> rw [hd] at d <;> cases d
  · exact hs.extBut b o hb e
theorem LExt.ofCell {h h' : Heap} {a : Addr} {v : Option Value} (hn : h.IsCell a v) (hs : Heap.SameBut a h h') : LExt h h' := by
  intro b o e d
  obtain ⟨o', ho, hd⟩ := hn
  by_cases hb : b = a
  · subst hb; rw [ho] at e; cases e
    rcases d with ⟨xs, n, d⟩ | ⟨_, f, d⟩ <;> rw [hd] at d <;> cases d
  · exact hs.extBut b o hb e
theorem LExt.isList {h h' : Heap} {a : Addr} {xs : Array Value} (x : LExt h h') (l : h.IsList a xs) : h'.IsList a xs := by
  obtain ⟨o, ho, hc, n, hd⟩ := l
  exact ⟨o, x a o ho (.inl ⟨xs, n, hd⟩), hc, n, hd⟩
theorem LExt.plain {h h' : Heap} {a : Addr} {xs : Array Value} (x : LExt h h') (l : h.PlainList a xs) : h'.PlainList a xs := by
  obtain ⟨n, ho⟩ := l
  exact ⟨n, x a _ ho (.inl ⟨xs, n, rfl⟩)⟩
theorem LExt.range {h h' : Heap} {r : Addr} {a b c : Int} {t u v : Tok} (x : LExt h h') (l : IsRange h r a b c t u v) : IsRange h' r a b c t u v := x r _ l (.inr ⟨rfl, _, rfl⟩)

/-- data -/
inductive D where
  | val (v : Value)
  | bool (b : Bool)
  | int (i : Int)
  | zs (ns : List Int)
  | zss (nss : List (List Int))
  | range (a b c : Int)

def IsInts (h : Heap) (v : Value) (ns : List Int) : Prop := ∃ a vs, v = .ref a ∧ h.IsList a vs.toArray ∧ IntsAre vs ns
def IsIntss (h : Heap) (v : Value) (nss : List (List Int)) : Prop := ∃ a vs, v = .ref a ∧ h.IsList a vs.toArray ∧ Paired (IsInts h) vs nss
def Is (d : D) (v : Value) (h : Heap) : Prop := match d with
  | .val u => v = u
  | .bool b => v = .bool b
  | .int i => ∃ t, v = .int i t
  | .zs ns => IsInts h v ns
  | .zss nss => IsIntss h v nss
  | .range a b c => ∃ r t u x, v = .ref r ∧ IsRange h r a b c t u x

theorem IsInts.l {h h' : Heap} {v : Value} {ns : List Int} (e : LExt h h') (x : IsInts h v ns) : IsInts h' v ns := by
  obtain ⟨a, vs, rfl, hl, hi⟩ := x
  exact ⟨a, vs, rfl, e.isList hl, hi⟩
theorem paired_mono {α β : Type} {F G : α → β → Prop} (hfg : ∀ a b, F a b → G a b) : ∀ {l₁ : List α} {l₂ : List β}, Paired F l₁ l₂ → Paired G l₁ l₂
  | _, _, .nil => .nil
  | _, _, .cons h t => .cons (hfg _ _ h) (paired_mono hfg t)
theorem IsIntss.l {h h' : Heap} {v : Value} {ns : List (List Int)} (e : LExt h h') (x : IsIntss h v ns) : IsIntss h' v ns := by
  obtain ⟨a, vs, rfl, hl, hi⟩ := x
  exact ⟨a, vs, rfl, e.isList hl, paired_mono (fun _ _ q => q.l e) hi⟩
theorem Is.l {d : D} {v : Value} {h h' : Heap} (e : LExt h h') (x : Is d v h) : Is d v h' := by
  cases d with
  | val u => exact x
  | bool b => exact x
  | int i => exact x
  | zs ns => exact IsInts.l e x
  | zss nss => exact IsIntss.l e x
  | range a b c => obtain ⟨r, t, u, y, q, k⟩ := x; exact ⟨r, t, u, y, q, e.range k⟩

/-- the tree ends, from every heap that extends h, in a value with P; nothing that stood is changed -/
def Ev {α : Type} (prog : Program) (w : World) (A : Around) (h : Heap) (t : Sem α) (P : α → Heap → Prop) : Prop :=
  ∀ s : Shared, Ext h s.heap → wpAny (model prog w) A t (fun v s' => Keeps s s' ∧ P v s'.heap) (fun _ _ => False) s

section
variable {prog : Program} {w : World} {A : Around} {h : Heap} {α β : Type}

theorem Ev.use {t : Sem α} {P : α → Heap → Prop} {s : Shared} {Q : α → Shared → Prop} {E : Value → Shared → Prop} (x : Ev prog w A h t P) (e : Ext h s.heap)
    (k : ∀ v h' tk, Ext s.heap h' → P v h' → Q v { s with heap := h', toks := tk }) : wpAny (model prog w) A t Q E s := by
  refine wpAny_mono (x s e) (fun v s' q => ?_) fun _ _ f => f.elim
  obtain ⟨⟨h', tk, rfl, hk⟩, hp⟩ := q
  exact k v h' tk hk hp

theorem Ev.of {t : Sem α} {P : α → Heap → Prop} (x : ∀ (s : Shared) (Q : α → Shared → Prop), Ext h s.heap →
    (∀ v h' tk, Ext s.heap h' → P v h' → Q v { s with heap := h', toks := tk }) → wpAny (model prog w) A t Q (fun _ _ => False) s) : Ev prog w A h t P :=
  fun s e => x s _ e fun v h' tk hk hp => ⟨⟨h', tk, rfl, hk⟩, hp⟩

theorem Ev.up {t : Sem α} {P : α → Heap → Prop} {h' : Heap} (x : Ev prog w A h t P) (e : Ext h h') : Ev prog w A h' t P := fun s q => x s (e.trans q)
theorem Ev.mono {t : Sem α} {P P' : α → Heap → Prop} (x : Ev prog w A h t P) (k : ∀ v h', Ext h h' → P v h' → P' v h') : Ev prog w A h t P' :=
  Ev.of fun _ _ e q => x.use e fun v h' tk hk hp => q v h' tk hk (k v h' (e.trans hk) hp)
end
end Mine
end

section -- Ex
open PySem PySem.W PyProof.Rows PySem.Calls
set_option Elab.async false
set_option maxRecDepth 100000
set_option maxHeartbeats 1000000
set_option linter.unusedVariables false
namespace Mine

/-- where a name leads -/
def Res (env : Env) (h : Heap) (x : Str) (v : Value) : Prop :=
  (env.kindOf x = some .local ∧ ∃ m, h.Ns env.locals m ∧ m x = some v) ∨
  ((env.kindOf x = some .cell ∨ env.kindOf x = some .free) ∧ ∃ c, env.cells.lookup x = some c ∧ h.IsCell c (some v)) ∨
  (env.kindOf x = some .globalImplicit ∧ ∃ mg, h.Ns env.globals mg ∧ (mg x = some v ∨ (mg x = none ∧ ∃ mb, h.Ns env.builtins mb ∧ mb x = some v)))

theorem Res.up {env : Env} {h h' : Heap} {x : Str} {v : Value} (r : Res env h x v) (e : Ext h h') : Res env h' x v := by
  rcases r with ⟨k, m, n, q⟩ | ⟨k, c, l, q⟩ | ⟨k, mg, n, q⟩
  · exact .inl ⟨k, m, n.keeps e, q⟩
  · exact .inr (.inl ⟨k, c, l, q.keeps e⟩)
  · refine .inr (.inr ⟨k, mg, n.keeps e, q.imp id fun ⟨a, mb, b, c⟩ => ⟨a, mb, b.keeps e, c⟩⟩)

/-- names and their data -/
abbrev Rho := List (Str × D)
def Vars (env : Env) (h : Heap) (ρ : Rho) : Prop := env.scope.kind = .function ∧ ∀ x d, ρ.lookup x = some d → ∃ v, Res env h x v ∧ Is d v h
theorem Vars.up {env : Env} {h h' : Heap} {ρ : Rho} (V : Vars env h ρ) (e : Ext h h') : Vars env h' ρ :=
  ⟨V.1, fun x d l => let ⟨v, r, i⟩ := V.2 x d l; ⟨v, r.up e, i.l e.l⟩⟩
theorem Vars.sub {env : Env} {h : Heap} {ρ ρ' : Rho} (V : Vars env h ρ) (k : ∀ p ∈ ρ', ρ.lookup p.1 = some p.2) : Vars env h ρ' := by
  refine ⟨V.1, fun x d l => V.2 x d ?_⟩
  have := k (x, d) (mem_of_lookup l)
  exact this

section
variable {prog : Program} {w : World} {A : Around} {h : Heap} {env : Env} {ρ : Rho}

theorem ev_res {x : Str} {pos : Pos} {v : Value} (hk : env.scope.kind = .function) (r : Res env h x v) (hd : (x == ("__debug__" : Str)) = false) (hn : (x == ("__classdict__" : Str)) = false) :
    Ev prog w A h (eval (.Name x pos) env) fun u _ => u = v := by
  refine Ev.of fun s Q e q => ?_
  have fin : Q v s := q v s.heap s.toks (Ext.refl _) rfl
  rcases r.up e with ⟨k, m, n, z⟩ | ⟨k, c, l, z⟩ | ⟨k, mg, n, z⟩
  · exact wpAny_Name (wpAny_loadName_local hk k n z fin) hd
  · rcases k with k | k
    · exact wpAny_Name (wpAny_loadName_cell hk k l z fin) hd
    · exact wpAny_Name (wpAny_loadName_free hk k l z fin hn) hd
  · refine Name_function_global hk k ?_ hd
    rcases z with z | ⟨z, mb, b, y⟩
    · exact loadGlobal_global n z fin
    · exact loadGlobal_builtin n z b y fin

theorem ev_name {x : Str} {pos : Pos} {d : D} (V : Vars env h ρ) (l : ρ.lookup x = some d) (hd : (x == ("__debug__" : Str)) = false) (hn : (x == ("__classdict__" : Str)) = false) :
    Ev prog w A h (eval (.Name x pos) env) (Is d) := by
  obtain ⟨v, r, i⟩ := V.2 x d l
  exact (ev_res V.1 r hd hn).mono fun u h' e q => by subst q; exact i.l e.l

theorem ev_int {i : Int} {k : Nat} {pos : Pos} : Ev prog w A h (eval (.Constant (.int i) k pos) env) (Is (.int i)) :=
  Ev.of fun s Q e q => wpAny_Constant_int (q _ s.heap _ (Ext.refl _) ⟨_, rfl⟩)
theorem ev_none {k : Nat} {pos : Pos} : Ev prog w A h (eval (.Constant .none k pos) env) (Is (.val .none)) :=
  Ev.of fun s Q e q => wpAny_Constant_none (q _ s.heap s.toks (Ext.refl _) rfl)
theorem ev_bool {b : Bool} {k : Nat} {pos : Pos} : Ev prog w A h (eval (.Constant (.bool b) k pos) env) (Is (.bool b)) :=
  Ev.of fun s Q e q => wpAny_Constant_bool (q _ s.heap s.toks (Ext.refl _) rfl)
theorem ev_neg {e : PySem.Expr} {pos : Pos} {i : Int} (x : Ev prog w A h (eval e env) (Is (.int i))) : Ev prog w A h (eval (.UnaryOp .USub e pos) env) (Is (.int (-i))) :=
  Ev.of fun s Q e q => wpAny_UnaryOp (x.use e fun v h' tk k p => by
    obtain ⟨t, rfl⟩ := p
    exact neg_int (q _ h' _ k ⟨_, rfl⟩))

theorem ev_bin {l r : PySem.Expr} {op : Operator} {pos : Pos} {a b c : D}
    (x : Ev prog w A h (eval l env) (Is a)) (y : Ev prog w A h (eval r env) (Is b))
    (z : ∀ h' u v, Ext h h' → Is a u h' → Is b v h' → Ev prog w A h' (binaryOp op u v) (Is c)) : Ev prog w A h (eval (.BinOp l op r pos) env) (Is c) :=
  Ev.of fun s Q e q => wpAny_BinOp (x.use e fun u h₁ t₁ k₁ p₁ => y.use (e.trans k₁) fun v h₂ t₂ k₂ p₂ =>
    (z h₂ u v (e.trans (k₁.trans k₂)) (p₁.l k₂.l) p₂).use (Ext.refl _) fun r h₃ t₃ k₃ p₃ => q r h₃ t₃ (k₁.trans (k₂.trans k₃)) p₃)
theorem ev_add {l r : PySem.Expr} {pos : Pos} {a b : Int} (x : Ev prog w A h (eval l env) (Is (.int a))) (y : Ev prog w A h (eval r env) (Is (.int b))) :
    Ev prog w A h (eval (.BinOp l .Add r pos) env) (Is (.int (a + b))) :=
  ev_bin x y fun h' u v e ⟨_, p⟩ ⟨_, p'⟩ => by subst p; subst p'; exact Ev.of fun s Q e q => add_int (q _ s.heap _ (Ext.refl _) ⟨_, rfl⟩)
theorem ev_sub {l r : PySem.Expr} {pos : Pos} {a b : Int} (x : Ev prog w A h (eval l env) (Is (.int a))) (y : Ev prog w A h (eval r env) (Is (.int b))) :
    Ev prog w A h (eval (.BinOp l .Sub r pos) env) (Is (.int (a - b))) :=
  ev_bin x y fun h' u v e ⟨_, p⟩ ⟨_, p'⟩ => by subst p; subst p'; exact Ev.of fun s Q e q => sub_int (q _ s.heap _ (Ext.refl _) ⟨_, rfl⟩)
theorem ev_mod {l r : PySem.Expr} {pos : Pos} {a b : Int} (x : Ev prog w A h (eval l env) (Is (.int a))) (y : Ev prog w A h (eval r env) (Is (.int b))) (hb : b ≠ 0) :
    Ev prog w A h (eval (.BinOp l .Mod r pos) env) (Is (.int (a.fmod b))) :=
  ev_bin x y fun h' u v e ⟨_, p⟩ ⟨_, p'⟩ => by subst p; subst p'; exact Ev.of fun s Q e q => mod_int' hb (q _ s.heap _ (Ext.refl _) ⟨_, rfl⟩)
theorem ev_div {l r : PySem.Expr} {pos : Pos} {a b : Int} (x : Ev prog w A h (eval l env) (Is (.int a))) (y : Ev prog w A h (eval r env) (Is (.int b))) (hb : b ≠ 0) (hp : Builtin.divisionGoesByPylong a b = false) :
    Ev prog w A h (eval (.BinOp l .FloorDiv r pos) env) (Is (.int (a.fdiv b))) :=
  ev_bin x y fun h' u v e ⟨_, p⟩ ⟨_, p'⟩ => by subst p; subst p'; exact Ev.of fun s Q e q => floordiv_int hb (q _ s.heap _ (Ext.refl _) ⟨_, rfl⟩) (.inl hp)

theorem ev_cmp {l r : PySem.Expr} {op : CmpOp} {pos : Pos} {a b c : D}
    (x : Ev prog w A h (eval l env) (Is a)) (y : Ev prog w A h (eval r env) (Is b))
    (z : ∀ h' u v, Ext h h' → Is a u h' → Is b v h' → Ev prog w A h' (compareOp op u v) (Is c)) (hm : behindInMarks op r = false := by with_unfolding_all rfl) : Ev prog w A h (eval (.Compare l [op] [r] pos) env) (Is c) :=
  Ev.of fun s Q e q => wpAny_Compare1 (x.use e fun u h₁ t₁ k₁ p₁ => y.use (e.trans k₁) fun v h₂ t₂ k₂ p₂ =>
    (z h₂ u v (e.trans (k₁.trans k₂)) (p₁.l k₂.l) p₂).use (Ext.refl _) fun r h₃ t₃ k₃ p₃ => q r h₃ t₃ (k₁.trans (k₂.trans k₃)) p₃) hm
/-- tests -/
def Te (prog : Program) (w : World) (A : Around) (env : Env) (h : Heap) (e : PySem.Expr) (b : Bool) : Prop := Ev prog w A h (isTrue e env (eval e env)) fun c _ => c = b
theorem te_cmp {l r : PySem.Expr} {op : CmpOp} {pos : Pos} {a b : D} {c : Bool}
    (x : Ev prog w A h (eval l env) (Is a)) (y : Ev prog w A h (eval r env) (Is b))
    (z : ∀ h' u v, Ext h h' → Is a u h' → Is b v h' → Ev prog w A h' (compareOp op u v) (Is (.bool c))) (hm : behindInMarks op r = false := by with_unfolding_all rfl) : Te prog w A env h (.Compare l [op] [r] pos) c :=
  Ev.of fun s Q e q => wpAny_isTrue_Compare1 (x.use e fun u h₁ t₁ k₁ p₁ => y.use (e.trans k₁) fun v h₂ t₂ k₂ p₂ =>
    (z h₂ u v (e.trans (k₁.trans k₂)) (p₁.l k₂.l) p₂).use (Ext.refl _) fun r h₃ t₃ k₃ p₃ => by
      subst p₃
      exact wpAny_truthy_bool (q _ h₃ t₃ (k₁.trans (k₂.trans k₃)) rfl)) hm
theorem cmp_lt {h' : Heap} {a b : Int} {u v : Value} (p : Is (.int a) u h') (p' : Is (.int b) v h') : Ev prog w A h' (compareOp .Lt u v) (Is (.bool (decide (a < b)))) := by
  obtain ⟨_, rfl⟩ := p; obtain ⟨_, rfl⟩ := p'; exact Ev.of fun s Q e q => lt_int (q _ s.heap s.toks (Ext.refl _) rfl)
theorem cmp_le {h' : Heap} {a b : Int} {u v : Value} (p : Is (.int a) u h') (p' : Is (.int b) v h') : Ev prog w A h' (compareOp .LtE u v) (Is (.bool (decide (a ≤ b)))) := by
  obtain ⟨_, rfl⟩ := p; obtain ⟨_, rfl⟩ := p'; exact Ev.of fun s Q e q => le_int (q _ s.heap s.toks (Ext.refl _) rfl)
theorem cmp_gt {h' : Heap} {a b : Int} {u v : Value} (p : Is (.int a) u h') (p' : Is (.int b) v h') : Ev prog w A h' (compareOp .Gt u v) (Is (.bool (decide (b < a)))) := by
  obtain ⟨_, rfl⟩ := p; obtain ⟨_, rfl⟩ := p'; exact Ev.of fun s Q e q => gt_int (q _ s.heap s.toks (Ext.refl _) rfl)
theorem cmp_ge {h' : Heap} {a b : Int} {u v : Value} (p : Is (.int a) u h') (p' : Is (.int b) v h') : Ev prog w A h' (compareOp .GtE u v) (Is (.bool (decide (b ≤ a)))) := by
  obtain ⟨_, rfl⟩ := p; obtain ⟨_, rfl⟩ := p'; exact Ev.of fun s Q e q => ge_int (q _ s.heap s.toks (Ext.refl _) rfl)
theorem cmp_eq {h' : Heap} {a b : Int} {u v : Value} (p : Is (.int a) u h') (p' : Is (.int b) v h') : Ev prog w A h' (compareOp .Eq u v) (Is (.bool (a == b))) := by
  obtain ⟨_, rfl⟩ := p; obtain ⟨_, rfl⟩ := p'; exact Ev.of fun s Q e q => eq_int (q _ s.heap s.toks (Ext.refl _) rfl)
theorem cmp_ne {h' : Heap} {a b : Int} {u v : Value} (p : Is (.int a) u h') (p' : Is (.int b) v h') : Ev prog w A h' (compareOp .NotEq u v) (Is (.bool (a != b))) := by
  obtain ⟨_, rfl⟩ := p; obtain ⟨_, rfl⟩ := p'; exact Ev.of fun s Q e q => ne_int (q _ s.heap s.toks (Ext.refl _) rfl)

theorem te_or_nil {pos : Pos} {whole : Sem Value} : Ev prog w A h (isTrue (.BoolOp .Or [] pos) env whole) fun c _ => c = false :=
  Ev.of fun s Q e q => isTrue_or_nil (q _ s.heap s.toks (Ext.refl _) rfl)
theorem te_or_cons {x : PySem.Expr} {rest : List PySem.Expr} {pos : Pos} {whole : Sem Value} {a b : Bool} (p : Te prog w A env h x a)
    (r : a = false → Ev prog w A h (isTrue (.BoolOp .Or rest pos) env whole) fun c _ => c = b) : Ev prog w A h (isTrue (.BoolOp .Or (x :: rest) pos) env whole) fun c _ => c = (a || b) :=
  Ev.of fun s Q e q => isTrue_or (p.use e fun c h₁ t₁ k₁ p₁ => by
    subst p₁
    cases c with
    | true => exact q _ h₁ t₁ k₁ rfl
    | false => exact (r rfl).use (e.trans k₁) fun d h₂ t₂ k₂ p₂ => q _ h₂ t₂ (k₁.trans k₂) p₂)
theorem te_eq {e : PySem.Expr} {a b : Bool} (x : Te prog w A env h e a) (q : a = b) : Te prog w A env h e b := q ▸ x
theorem ev_eq {t : Sem Value} {a b : D} (x : Ev prog w A h t (Is a)) (q : a = b) : Ev prog w A h t (Is b) := q ▸ x
theorem ev_ifexp {c a b : PySem.Expr} {pos : Pos} {β : Bool} {d : D} (x : Te prog w A env h c β) (y : β = true → Ev prog w A h (eval a env) (Is d)) (z : β = false → Ev prog w A h (eval b env) (Is d)) :
    Ev prog w A h (eval (.IfExp c a b pos) env) (Is d) :=
  Ev.of fun s Q e q => IfExp_ (x.use e fun c h₁ t₁ k₁ p₁ => by
    subst p₁
    cases c with
    | true => exact (y rfl).use (e.trans k₁) fun v h₂ t₂ k₂ p₂ => q _ h₂ t₂ (k₁.trans k₂) p₂
    | false => exact (z rfl).use (e.trans k₁) fun v h₂ t₂ k₂ p₂ => q _ h₂ t₂ (k₁.trans k₂) p₂)

/-- items -/
theorem intsAre_get {vs : List Value} {ns : List Int} (hi : IntsAre vs ns) {k : Nat} (hk : k < ns.length) : ∃ t, vs[k]? = some (.int (ns.getD k 0) t) := by
  obtain ⟨t, ht⟩ := hi.get k ns[k] (by simp [hk])
  exact ⟨t, by rw [ht]; simp [List.getD, hk]⟩
theorem paired_get {F : Value → List Int → Prop} : ∀ {vs : List Value} {nss : List (List Int)}, Paired F vs nss → ∀ k, k < nss.length → ∃ v, vs[k]? = some v ∧ F v (nss.getD k [])
  | _, _, .nil, k, hk => absurd hk (Nat.not_lt_zero _)
  | v :: _, _, .cons x t, 0, _ => ⟨v, rfl, x⟩
  | _ :: _, _, .cons x t, k + 1, hk => paired_get t k (Nat.lt_of_succ_lt_succ hk)

theorem ev_sub_ {value slice : PySem.Expr} {pos : Pos} {a c : D} {k : Int}
    (x : Ev prog w A h (eval value env) (Is a)) (y : Ev prog w A h (eval slice env) (Is (.int k)))
    (z : ∀ h' l t, Ext h h' → Is a (.ref l) h' → Ev prog w A h' (getItem (.ref l) (.int k t)) (Is c))
    (ha : ∀ v h', Is a v h' → ∃ l xs, v = .ref l ∧ h'.IsList l xs)
    (hs : ∀ l t, subscripted slice false (.ref l) (.int k t) = operate [.ref l, .int k t] (getItem (.ref l) (.int k t)) := by intro _ _; with_unfolding_all rfl) :
    Ev prog w A h (eval (.Subscript value slice pos) env) (Is c) :=
  Ev.of fun s Q e q => Subscript_ (x.use e fun u h₁ t₁ k₁ p₁ => y.use (e.trans k₁) fun v h₂ t₂ k₂ p₂ => by
    obtain ⟨t, rfl⟩ := p₂
    obtain ⟨l, xs, rfl, hl⟩ := ha u h₂ (p₁.l k₂.l)
    exact tail_any (T := "list") (s := { s with heap := h₂, toks := t₂ }) hl.typeIs slot_list_getitem.lookup ((z h₂ l t (e.trans (k₁.trans k₂)) (p₁.l k₂.l)).use (Ext.refl _) fun r h₃ t₃ k₃ p₃ => q r h₃ t₃ (k₁.trans (k₂.trans k₃)) p₃) (hs l t))
theorem isList_of_zs {ns : List Int} : ∀ v h', Is (.zs ns) v h' → ∃ l xs, v = .ref l ∧ h'.IsList l xs := fun v h' ⟨a, vs, e, l, _⟩ => ⟨a, _, e, l⟩
theorem isList_of_zss {ns : List (List Int)} : ∀ v h', Is (.zss ns) v h' → ∃ l xs, v = .ref l ∧ h'.IsList l xs := fun v h' ⟨a, vs, e, l, _⟩ => ⟨a, _, e, l⟩
theorem ev_item {value slice : PySem.Expr} {pos : Pos} {ns : List Int} {k : Int}
    (x : Ev prog w A h (eval value env) (Is (.zs ns))) (y : Ev prog w A h (eval slice env) (Is (.int k))) (h0 : 0 ≤ k) (h1 : k < ns.length) (h2 : ns.length < 2 ^ 60)
    (hs : ∀ l t, subscripted slice false (.ref l) (.int k t) = operate [.ref l, .int k t] (getItem (.ref l) (.int k t)) := by intro _ _; with_unfolding_all rfl) :
    Ev prog w A h (eval (.Subscript value slice pos) env) (Is (.int (ns.getD k.toNat 0))) :=
  ev_sub_ x y (fun h' l t e ⟨a, vs, q, hl, hi⟩ => by
    cases q
    obtain ⟨u, hu⟩ := intsAre_get hi (k := k.toNat) (by omega)
    exact Ev.of fun s Q e' q => wpAny_getItem_list (e'.l.isList hl) h0 (by omega) (by simpa using hu) (q _ s.heap s.toks (Ext.refl _) ⟨u, rfl⟩)) isList_of_zs hs
theorem ev_itemL {value slice : PySem.Expr} {pos : Pos} {nss : List (List Int)} {k : Int}
    (x : Ev prog w A h (eval value env) (Is (.zss nss))) (y : Ev prog w A h (eval slice env) (Is (.int k))) (h0 : 0 ≤ k) (h1 : k < nss.length) (h2 : nss.length < 2 ^ 60)
    (hs : ∀ l t, subscripted slice false (.ref l) (.int k t) = operate [.ref l, .int k t] (getItem (.ref l) (.int k t)) := by intro _ _; with_unfolding_all rfl) :
    Ev prog w A h (eval (.Subscript value slice pos) env) (Is (.zs (nss.getD k.toNat []))) :=
  ev_sub_ x y (fun h' l t e ⟨a, vs, q, hl, hi⟩ => by
    cases q
    obtain ⟨v, hv, hF⟩ := paired_get hi k.toNat (by omega)
    exact Ev.of fun s Q e' q => wpAny_getItem_list (e'.l.isList hl) h0 (by omega) (by simpa using hv) (q _ s.heap s.toks (Ext.refl _) (hF.l e'.l))) isList_of_zss hs
theorem ev_itemNeg {value slice : PySem.Expr} {pos : Pos} {ns : List Int} {k : Int}
    (x : Ev prog w A h (eval value env) (Is (.zs ns))) (y : Ev prog w A h (eval slice env) (Is (.int k))) (h0 : k < 0) (h1 : -(ns.length : Int) ≤ k) (h2 : ns.length < 2 ^ 60)
    (hs : ∀ l t, subscripted slice false (.ref l) (.int k t) = operate [.ref l, .int k t] (getItem (.ref l) (.int k t)) := by intro _ _; with_unfolding_all rfl) :
    Ev prog w A h (eval (.Subscript value slice pos) env) (Is (.int (ns.getD (k + ns.length).toNat 0))) :=
  ev_sub_ x y (fun h' l t e ⟨a, vs, q, hl, hi⟩ => by
    cases q
    have hlen := hi.length
    obtain ⟨u, hu⟩ := intsAre_get hi (k := (k + ns.length).toNat) (by omega)
    exact Ev.of fun s Q e' q => wpAny_getItem_list_neg (e'.l.isList hl) h0 (by simp only [List.size_toArray]; omega) (by omega) (by simp only [List.size_toArray, hlen]; simpa using hu) (q _ s.heap s.toks (Ext.refl _) ⟨u, rfl⟩)) isList_of_zs hs

end
end Mine
end

section -- Ls
open PySem PySem.W PyProof.Rows PySem.Calls
set_option Elab.async false
set_option maxRecDepth 100000
set_option maxHeartbeats 2000000
set_option linter.unusedVariables false
namespace Mine

theorem ext_push {h : Heap} (o : Obj) : Ext h (h.push o) := fun _ _ e => Heap.get?_push_of_some _ e

inductive IsAll (h : Heap) : List D → List Value → Prop
  | nil : IsAll h [] []
  | cons {d : D} {v : Value} {ds : List D} {vs : List Value} : Is d v h → IsAll h ds vs → IsAll h (d :: ds) (v :: vs)
theorem IsAll.l {h h' : Heap} (e : LExt h h') : ∀ {ds : List D} {vs : List Value}, IsAll h ds vs → IsAll h' ds vs
  | _, _, .nil => .nil
  | _, _, .cons x r => .cons (x.l e) (IsAll.l e r)

theorem IsAll.length {h : Heap} : ∀ {ds : List D} {vs : List Value}, IsAll h ds vs → vs.length = ds.length
  | _, _, .nil => rfl
  | _, _, .cons x r => by rw [List.length_cons, List.length_cons, IsAll.length r]

section
variable {prog : Program} {w : World} {A : Around} {h : Heap} {env : Env} {ρ : Rho}

/-- arguments, one after the other -/
def EvArgs (prog : Program) (w : World) (A : Around) (h : Heap) (ts : List (Bool × Sem Value)) (ds : List D) : Prop := Ev prog w A h (spliced ts) fun vs h' => IsAll h' ds vs
theorem args_nil : EvArgs prog w A h [] [] := Ev.of fun s Q e q => spliced_nil (q _ s.heap s.toks (Ext.refl _) .nil)
theorem args_cons {t : Sem Value} {ts : List (Bool × Sem Value)} {d : D} {ds : List D} (x : Ev prog w A h t (Is d)) (y : EvArgs prog w A h ts ds) : EvArgs prog w A h ((false, t) :: ts) (d :: ds) :=
  Ev.of fun s Q e q => spliced_cons (x.use e fun v h₁ t₁ k₁ p₁ => y.use (e.trans k₁) fun vs h₂ t₂ k₂ p₂ => q _ h₂ t₂ (k₁.trans k₂) (.cons (p₁.l k₂.l) p₂))

/-- what may be called so -/
inductive Callee (h : Heap) : Value → Prop
  | builtin (id : String) : Callee h (.builtin id)
  | type (T : String) : Callee h (.type T)
  | func (a : Addr) (o : Obj) (fd : FuncData) : h.get? a = some o → o.data = .func fd → Callee h (.ref a)
theorem Callee.up {h h' : Heap} {v : Value} (c : Callee h v) (e : Ext h h') : Callee h' v := by
  cases c with
  | builtin id => exact .builtin id
  | type T => exact .type T
  | func a o fd p q => exact .func a o fd (e _ _ p) q

theorem ev_call {f : Str} {p pos : Pos} {args : List PySem.Expr} {fv : Value} {t : Sem Value} {ts : List (Bool × Sem Value)} {ds : List D} {d : D}
    (hf : Ev prog w A h (eval (.Name f p) env) (Is (.val fv))) (hc : Callee h fv)
    (ht : backTo pos (starEach args env) = (false, t) :: ts) (hpl : (ts.any (·.1)) = false)
    (ha : EvArgs prog w A h ((false, t) :: ts) ds)
    (k : ∀ h' vs, Ext h h' → IsAll h' ds vs → Ev prog w A h' (call fv vs) (Is d)) : Ev prog w A h (eval (.Call (.Name f p) args [] pos) env) (Is d) :=
  Ev.of fun s Q e q => Call_Name ht (hf.use e fun u h₁ t₁ k₁ p₁ => by
    have p₁ : u = fv := p₁
    subst p₁
    have hargs : ∀ (Q' : Args → Shared → Prop), (∀ vs h₂ tk₂, Ext h₁ h₂ → IsAll h₂ ds vs → Q' ⟨vs, []⟩ { s with heap := h₂, toks := tk₂ }) →
        wpAny (model prog w) A (evalArgs u true ((false, t) :: ts) []) Q' (fun _ _ => False) { s with heap := h₁, toks := t₁ } := fun Q' k' =>
      evalArgs_plain (ha.use (e.trans k₁) fun vs h₂ t₂ k₂ p₂ => k' vs h₂ t₂ k₂ p₂)
    have fin : ∀ vs h₂ tk₂, Ext h₁ h₂ → IsAll h₂ ds vs → wpAny (model prog w) A (call u vs []) Q (fun _ _ => False) { s with heap := h₂, toks := tk₂ } := fun vs h₂ tk₂ k₂ p₂ =>
      (k h₂ vs (e.trans (k₁.trans k₂)) p₂).use (Ext.refl _) fun r h₃ t₃ k₃ p₃ => q r h₃ t₃ (k₁.trans (k₂.trans k₃)) p₃
    have hplain : (((false, t) :: ts).any (·.1)) = false := by simpa using hpl
    cases hc with
    | builtin id => exact callWith_builtin hplain (hargs _ fun vs h₂ tk₂ k₂ p₂ => fin vs h₂ tk₂ k₂ p₂)
    | type T => exact PyProof.Rows.callWith_type hplain (hargs _ fun vs h₂ tk₂ k₂ p₂ => fin vs h₂ tk₂ k₂ p₂)
    | func a o fd p' q' => exact callWith_function (o := o) (fd := fd) (hargs _ fun vs h₂ tk₂ k₂ p₂ => ⟨⟨(e.trans (k₁.trans k₂)) _ _ p', q'⟩, fin vs h₂ tk₂ k₂ p₂⟩))

/-- built-ins -/
theorem ev_len {h : Heap} {v : Value} {ns : List Int} (i : Is (.zs ns) v h) (hl : ns.length < 2 ^ 60) : Ev prog w A h (call (.builtin "len") [v]) (Is (.int ns.length)) := by
  obtain ⟨a, vs, rfl, l, hi⟩ := i
  have e1 : vs.toArray.size = ns.length := by simp [hi.length]
  exact Ev.of fun s Q e q => len_list (e.l.isList l) (by rw [e1]; omega) (q _ s.heap _ (Ext.refl _) ⟨_, by rw [e1]⟩)
theorem paired_length {F : Value → List Int → Prop} : ∀ {vs : List Value} {nss : List (List Int)}, Paired F vs nss → vs.length = nss.length
  | _, _, .nil => rfl
  | _, _, .cons _ t => by rw [List.length_cons, List.length_cons, paired_length t]
theorem ev_lenL {h : Heap} {v : Value} {ns : List (List Int)} (i : Is (.zss ns) v h) (hl : ns.length < 2 ^ 60) : Ev prog w A h (call (.builtin "len") [v]) (Is (.int ns.length)) := by
  obtain ⟨a, vs, rfl, l, hi⟩ := i
  have e1 : vs.toArray.size = ns.length := by simp [paired_length hi]
  exact Ev.of fun s Q e q => len_list (e.l.isList l) (by rw [e1]; omega) (q _ s.heap _ (Ext.refl _) ⟨_, by rw [e1]⟩)
theorem ev_abs {h : Heap} {v : Value} {i : Int} (p : Is (.int i) v h) : Ev prog w A h (call (.builtin "abs") [v]) (Is (.int (i.natAbs : Int))) := by
  obtain ⟨t, rfl⟩ := p
  have e : (i.natAbs : Int) = if i < 0 then -i else i := by split <;> omega
  rw [e]
  exact Ev.of fun s Q e q => call_abs_int fun u tk => q _ s.heap _ (Ext.refl _) ⟨_, rfl⟩
theorem ev_min {h : Heap} {v u : Value} {i j : Int} (p : Is (.int i) v h) (p' : Is (.int j) u h) (hh : A.handled = none) : Ev prog w A h (call (.builtin "min") [v, u]) (Is (.int (min i j))) := by
  obtain ⟨t, rfl⟩ := p
  obtain ⟨t', rfl⟩ := p'
  refine Ev.of fun s Q e q => PySem.min_two_ints hh fun h' tk k => q _ h' tk k ?_
  by_cases c : j < i
  · rw [if_pos c]; exact ⟨_, by rw [show min i j = j by omega]⟩
  · rw [if_neg c]; exact ⟨_, by rw [show min i j = i by omega]⟩
theorem items_of {vs : List Value} {ns : List Int} (hi : IntsAre vs ns) : ∃ xs : Array (Int × Tok), vs.toArray = intItems xs ∧ xs.toList.map (·.1) = ns := by
  induction hi with
  | nil => exact ⟨#[], by simp [intItems], rfl⟩
  | cons n t h ih =>
    obtain ⟨xs, e1, e2⟩ := ih
    refine ⟨((n, t) :: xs.toList).toArray, ?_, by simp [e2]⟩
    simp only [intItems] at e1 ⊢
    have := congrArg Array.toList e1
    simp at this
    simp [this]
theorem ev_range1 {h : Heap} {v : Value} {i : Int} (p : Is (.int i) v h) : Ev prog w A h (call (.type "range") [v]) (Is (.range 0 i 1)) := by
  obtain ⟨t, rfl⟩ := p
  exact Ev.of fun s Q e q => call_range_1 (q _ _ _ (ext_push _) ⟨_, _, _, _, rfl, Heap.get?_push_size _ rfl⟩)
theorem ev_range2 {h : Heap} {v u : Value} {i j : Int} (p : Is (.int i) v h) (p' : Is (.int j) u h) : Ev prog w A h (call (.type "range") [v, u]) (Is (.range i j 1)) := by
  obtain ⟨t, rfl⟩ := p
  obtain ⟨t', rfl⟩ := p'
  exact Ev.of fun s Q e q => call_range_2 (q _ _ _ (ext_push _) ⟨_, _, _, _, rfl, Heap.get?_push_size _ rfl⟩)
theorem ev_range3 {h : Heap} {v u x : Value} {i j c : Int} (p : Is (.int i) v h) (p' : Is (.int j) u h) (p'' : Is (.int c) x h) (hc : c ≠ 0) (hp : Builtin.divisionGoesByPylong (j - i) c = false) :
    Ev prog w A h (call (.type "range") [v, u, x]) (Is (.range i j c)) := by
  obtain ⟨t, rfl⟩ := p
  obtain ⟨t', rfl⟩ := p'
  obtain ⟨t'', rfl⟩ := p''
  exact Ev.of fun s Q e q => PySem.call_range_3 hc (q _ _ _ (ext_push _) ⟨_, _, _, _, rfl, Heap.get?_push_size _ rfl⟩) (.inl hp)
theorem ev_listL {h : Heap} {v : Value} {ns : List Int} (p : Is (.zs ns) v h) (hl : ns.length ≤ 2 ^ 20) : Ev prog w A h (call (.type "list") [v]) (Is (.zs ns)) := by
  obtain ⟨a, vs, rfl, ⟨o, ho, hc, n, hd⟩, hi⟩ := p
  exact Ev.of fun s Q e q => call_list_seq a (.inl rfl) (e _ _ ho) hc hd (fun h' c' k hD => q _ h' s.toks k ⟨_, vs, rfl, ⟨_, hD, rfl, c', rfl⟩, hi⟩) (by rw [List.size_toArray, hi.length, sizeLine_eq]; omega)

/-- displays, products, sums, slices -/
theorem ev_list {es : List PySem.Expr} {pos : Pos} {ts : List (Bool × Sem Value)} {ds : List D} {d : D} (ht : backTo pos (starEach es env) = ts) (ha : EvArgs prog w A h ts ds)
    (hl : ds.length ≤ 100) (k : ∀ h' a vs, h'.PlainList a vs.toArray → IsAll h' ds vs → Is d (.ref a) h') : Ev prog w A h (eval (.List es pos) env) (Is d) :=
  Ev.of fun s Q e q => List_ (by
    rw [ht]
    exact ha.use e fun vs h₁ t₁ k₁ p₁ => by
      have hlen : vs.length = ds.length := p₁.length
      refine wpAny_newList (q _ _ t₁ (k₁.trans (ext_push _)) (k _ _ vs ⟨0, Heap.get?_push_size _ rfl⟩ (p₁.l (ext_push _).l))) (by rw [hlen, sizeLine_eq]; omega))
theorem ints_of_all {h : Heap} : ∀ {ns : List Int} {vs : List Value}, IsAll h (ns.map .int) vs → IntsAre vs ns
  | [], _, .nil => .nil
  | _ :: _, _, .cons ⟨_, rfl⟩ r => .cons _ _ (ints_of_all r)
theorem plain_isList {h : Heap} {a : Addr} {xs : Array Value} (p : h.PlainList a xs) : h.IsList a xs := let ⟨n, e⟩ := p; ⟨_, e, rfl, n, rfl⟩
theorem ev_listZ {es : List PySem.Expr} {pos : Pos} {ts : List (Bool × Sem Value)} (ns : List Int) (ht : backTo pos (starEach es env) = ts) (ha : EvArgs prog w A h ts (ns.map .int))
    (hl : ns.length ≤ 100) : Ev prog w A h (eval (.List es pos) env) (Is (.zs ns)) :=
  ev_list ht ha (by simpa using hl) fun h' a vs p q => ⟨a, vs, rfl, plain_isList p, ints_of_all q⟩
theorem ev_listZZ {es : List PySem.Expr} {pos : Pos} {ts : List (Bool × Sem Value)} (ns : List Int) (ht : backTo pos (starEach es env) = ts) (ha : EvArgs prog w A h ts [.zs ns]) :
    Ev prog w A h (eval (.List es pos) env) (Is (.zss [ns])) :=
  ev_list ht ha (by simp) fun h' a vs p q => by
    cases q with
    | cons x r => cases r; exact ⟨a, _, rfl, plain_isList p, .cons x .nil⟩

theorem ev_catZ {l r : PySem.Expr} {pos : Pos} {a b : List Int} (x : Ev prog w A h (eval l env) (Is (.zs a))) (y : Ev prog w A h (eval r env) (Is (.zs b))) (hl : a.length + b.length ≤ 2 ^ 20) :
    Ev prog w A h (eval (.BinOp l .Add r pos) env) (Is (.zs (a ++ b))) :=
  ev_bin x y fun h' u v e ⟨p, vs, q, hp, hi⟩ ⟨p', ws, q', hp', hj⟩ => by
    subst q; subst q'
    obtain ⟨⟨cls, dd, data, sl⟩, ho, hc, n, hd⟩ := hp
    obtain ⟨⟨cls2, dd2, data2, sl2⟩, ho2, hc2, n2, hd2⟩ := hp'
    simp only at hc hd hc2 hd2
    subst hc hd hc2 hd2
    have e' : vs.toArray ++ ws.toArray = (vs ++ ws).toArray := by simp
    refine Ev.of fun s Q e q => concat_meets ⟨_, e _ _ ho, rfl⟩ ⟨_, e _ _ ho2, rfl⟩ noFill_list_add seq_list_add PySem.F.slot_list_add PySem.F.entry_list_add (PySem.F.args_list_add_2 _ _)
      (list_addW p p' vs.toArray ws.toArray n n2 dd dd2 sl sl2 (by simp only [List.size_toArray, hi.length, hj.length, sizeLine_eq]; omega)) ⟨e _ _ ho, e _ _ ho2, ?_⟩
    rw [e']
    exact q _ _ s.toks (ext_push _) ⟨_, _, rfl, ⟨_, Heap.get?_push_size _ rfl, rfl, 0, rfl⟩, hi.append hj⟩

theorem ints_take {vs : List Value} {ns : List Int} (hi : IntsAre vs ns) : ∀ k : Nat, IntsAre (vs.take k) (ns.take k) := by
  induction hi with
  | nil => intro k; simp; exact .nil
  | cons n t h ih => intro k; cases k with
    | zero => exact .nil
    | succ k => exact .cons n t (ih k)
theorem ints_drop {vs : List Value} {ns : List Int} (hi : IntsAre vs ns) : ∀ k : Nat, IntsAre (vs.drop k) (ns.drop k) := by
  induction hi with
  | nil => intro k; simp; exact .nil
  | cons n t h ih => intro k; cases k with
    | zero => exact .cons n t h
    | succ k => exact ih k

inductive Part (prog : Program) (w : World) (A : Around) (h : Heap) (env : Env) : Option PySem.Expr → Option Int → Prop
  | none : Part prog w A h env none none
  | some {e : PySem.Expr} {i : Int} : Ev prog w A h (eval e env) (Is (.int i)) → Part prog w A h env (some e) (some i)
theorem Part.ev {x : Option PySem.Expr} {i : Option Int} (p : Part prog w A h env x i) : Ev prog w A h (evalPart x env) fun v _ => IsPart v i := by
  cases p with
  | none => exact Ev.of fun s Q e q => wpAny_evalPart_none (q _ s.heap s.toks (Ext.refl _) .none)
  | some x => exact x.mono fun v h' _ ⟨t, q⟩ => by subst q; exact .int _ _

theorem ev_slice {value : PySem.Expr} {lower upper : Option PySem.Expr} {p pos : Pos} {ns out : List Int} {lo hi : Option Int}
    (x : Ev prog w A h (eval value env) (Is (.zs ns))) (y : Part prog w A h env lower lo) (z : Part prog w A h env upper hi) (hl : ns.length ≤ 2 ^ 20)
    (k : ∀ vs : List Value, IntsAre vs ns → ∃ us : List Value, slicePick vs.toArray lo hi none = us.toArray ∧ IntsAre us out)
    (ht : ∀ o r, letTemporaryGo value o r = pure () := by intro _ _; rfl) :
    Ev prog w A h (eval (.Subscript value (.Slice lower upper none p) pos) env) (Is (.zs out)) :=
  Ev.of fun s Q e q => wpAny_Subscript_list_slice (x.use e fun o h₁ t₁ k₁ p₁ => y.ev.use (e.trans k₁) fun vl h₂ t₂ k₂ p₂ => z.ev.use (e.trans (k₁.trans k₂)) fun vu h₃ t₃ k₃ p₃ => by
    obtain ⟨a, vs, rfl, l, hI⟩ := p₁.l (k₂.trans k₃).l
    obtain ⟨us, e1, e2⟩ := k vs hI
    refine ⟨a, _, _, _, rfl, l, by rw [List.size_toArray, hI.length, sizeLine_eq]; omega, p₂, p₃, q _ _ t₃ (k₁.trans (k₂.trans (k₃.trans ((ext_push _).trans (ext_push _))))) ⟨_, us, rfl, ?_, e2⟩⟩
    rw [← e1]
    refine ⟨{ cls := .type "list", data := .seq (slicePick vs.toArray lo hi none) }, ?_, rfl, 0, rfl⟩
    have g := Heap.get?_push_size (o := { cls := .type "list", data := .seq (slicePick vs.toArray lo hi none) }) (h₃.push { cls := .type "slice", data := .fields #[vl, vu, .none] }) rfl
    rw [Heap.size_push] at g
    exact g) ht

theorem ev_sum {h : Heap} {v : Value} {ns : List Int} (p : Is (.zs ns) v h) (hh : A.handled = none) (hb : ∀ j, j < ns.length → InLong (ns.getD j 0) ∧ InLong (ns.take (j + 1)).sum) :
    Ev prog w A h (call (.builtin "sum") [v]) (Is (.int ns.sum)) := by
  obtain ⟨a, vs, rfl, l, hi⟩ := p
  obtain ⟨xs, e1, e2⟩ := items_of hi
  have hn : ∀ j, numAt xs j = ns.getD j 0 := fun j => by rw [numAt_eq, e2]
  rw [e1] at l
  have hsz : xs.size = ns.length := by rw [← e2]; simp
  refine Ev.of fun s Q e q => PySem.sum_intList hh (e.l.isList l) (fun j hj => ?_) fun h' tk t' k => q _ _ _ k ⟨t', ?_⟩
  · rw [numAt_eq, preSum_eq, e2]; exact hb j (by omega)
  · rw [preSum_eq, e2, hsz, List.take_of_length_le (Nat.le_refl _)]

theorem ev_mulZ {l r : PySem.Expr} {pos : Pos} {x t : Int} (a : ∀ s Q, Ext h s.heap → (∀ a vs h' tk, Ext s.heap h' → h'.PlainList a vs.toArray → IntsAre vs [x] → Q (.ref a) { s with heap := h', toks := tk }) → wpAny (model prog w) A (eval l env) Q (fun _ _ => False) s)
    (y : Ev prog w A h (eval r env) (Is (.int t))) (h0 : 0 ≤ t) (h1 : t ≤ 100) :
    Ev prog w A h (eval (.BinOp l .Mult r pos) env) (Is (.zs (List.replicate t.toNat x))) :=
  Ev.of fun s Q e q => wpAny_BinOp (a s _ e fun l vs h₁ t₁ k₁ p₁ i₁ => y.use (e.trans k₁) fun v h₂ t₂ k₂ p₂ => by
    obtain ⟨u, rfl⟩ := p₂
    obtain ⟨n, ho⟩ := p₁
    have ho := k₂ _ _ ho
    cases i₁ with
    | cons _ tk r => cases r with
      | nil =>
        refine wpAny_binaryOp_repeat_ref (T := "list") (U := "int") (by decide) ⟨_, ho, rfl⟩ (fun s' => typeIs_int s' t u) noFill_list_mul F.fills_int_mul F.slot_int_rmul repeat_list F.slot_int_index.lookup
          (call_meets F.slot_int_rmul (typeIs_int _ t u) F.entry_int_rmul (F.args_int_rmul_2 _ _) (int___rmul___int_list t u l _ n)
            ⟨ho, rfl, ⟨_, ho, rfl⟩, call_meets F.slot_list_mul ⟨_, ho, rfl⟩ F.entry_list_mul (F.args_list_mul_2 _ _)
              (AutoListH.list___mul___list_int_3 l _ n t u (by simp [Builtin.List.listFitsIndex]; omega) (by simp; omega) (by simp [Builtin.List.listTooLong, sizeLine]; omega))
              ⟨ho, ?_⟩⟩)
        have hv : (List.foldl (fun x1 x2 => x1 ++ x2) #[] (List.replicate (if ([Value.int x tk].toArray).isEmpty = true then 0 else t.toNat) [Value.int x tk].toArray)) = (List.replicate t.toNat (Value.int x tk)).toArray := by
          have g : ∀ (m : Nat) (acc : Array Value), List.foldl (fun x1 x2 => x1 ++ x2) acc (List.replicate m [Value.int x tk].toArray) = acc ++ (List.replicate m (Value.int x tk)).toArray := by
            intro m
            induction m with
            | zero => intro acc; simp
            | succ m ih => intro acc; rw [List.replicate_succ, List.foldl_cons, ih, List.replicate_succ]; apply Array.ext'; simp
          have := g t.toNat #[]
          simpa using this
        rw [hv]
        refine q _ _ t₂ (k₁.trans (k₂.trans (ext_push _))) ⟨_, List.replicate t.toNat (Value.int x tk), rfl, ⟨_, Heap.get?_push_size _ rfl, rfl, 0, rfl⟩, ?_⟩
        generalize t.toNat = m
        induction m with
        | zero => exact .nil
        | succ m ih => rw [List.replicate_succ, List.replicate_succ]; exact .cons _ _ ih)

theorem cmp_eqZ {h' : Heap} {a b : List Int} {u v : Value} (p : Is (.zs a) u h') (p' : Is (.zs b) v h') (hu : A.units + 64 < cLine) : Ev prog w A h' (compareOp .Eq u v) (Is (.bool (decide (a = b)))) := by
  obtain ⟨_, vs, rfl, l, i⟩ := p; obtain ⟨_, ws, rfl, l', i'⟩ := p'
  exact Ev.of fun s Q e q => eq_intsK (e.l.isList l) i (e.l.isList l') i' hu (q _ s.heap s.toks (Ext.refl _) rfl)
theorem cmp_neZ {h' : Heap} {a b : List Int} {u v : Value} (p : Is (.zs a) u h') (p' : Is (.zs b) v h') (hu : A.units + 64 < cLine) : Ev prog w A h' (compareOp .NotEq u v) (Is (.bool (!decide (a = b)))) := by
  obtain ⟨_, vs, rfl, l, i⟩ := p; obtain ⟨_, ws, rfl, l', i'⟩ := p'
  exact Ev.of fun s Q e q => ne_intsK (e.l.isList l) i (e.l.isList l') i' hu (q _ s.heap s.toks (Ext.refl _) rfl)
theorem te_truthy {e : PySem.Expr} {ns : List Int} (x : Ev prog w A h (eval e env) (Is (.zs ns))) (hl : ns.length < 2 ^ 60)
    (ht : isTrue e env (eval e env) = (do let v ← eval e env; standAt (Expr.pos e); holding [v] (truthy v))) : Te prog w A env h e (!ns.isEmpty) :=
  Ev.of fun s Q q k => isTrue_plain (x.use q fun v h₁ t₁ k₁ p₁ => by
    obtain ⟨a, vs, rfl, l, i⟩ := p₁
    refine wpAny_truthy_list l (by rw [List.size_toArray, i.length]; omega) (k _ _ _ k₁ ?_)
    cases i <;> rfl) ht
end
end Mine
end

section -- Cp
open PySem PySem.W PyProof.Rows PySem.Calls
set_option Elab.async false
set_option maxRecDepth 100000
set_option maxHeartbeats 2000000
set_option linter.unusedVariables false
namespace Mine

def Flat : D → Prop
  | .zss _ => False
  | _ => True
theorem Is.but {d : D} {v : Value} {h h' : Heap} {a : Addr} (f : Flat d) (x : Is d v h) (n : v ≠ .ref a) (hs : Heap.SameBut a h h') : Is d v h' := by
  cases d with
  | val u => exact x
  | bool b => exact x
  | int i => exact x
  | zs ns =>
    obtain ⟨b, vs, rfl, ⟨o, ho, r⟩, hi⟩ := x
    exact ⟨b, vs, rfl, ⟨o, hs.extBut b o (fun e => n (by rw [e])) ho, r⟩, hi⟩
  | zss nss => exact f.elim
  | range i j k =>
    obtain ⟨r, t, u, y, rfl, k⟩ := x
    exact ⟨r, t, u, y, rfl, hs.extBut r _ (fun e => n (by rw [e])) k⟩

/-- as Ev, and a list that comes back is new -/
def EvF (prog : Program) (w : World) (A : Around) (h : Heap) (t : Sem Value) (d : D) : Prop :=
  ∀ s : Shared, Ext h s.heap → wpAny (model prog w) A t (fun v s' => Keeps s s' ∧ Is d v s'.heap ∧ ∀ a, v = .ref a → s.heap.get? a = none) (fun _ _ => False) s

section
variable {prog : Program} {w : World} {A : Around} {h : Heap}
theorem EvF.use {t : Sem Value} {d : D} {s : Shared} {Q : Value → Shared → Prop} {E : Value → Shared → Prop} (x : EvF prog w A h t d) (e : Ext h s.heap)
    (k : ∀ v h' tk, Ext s.heap h' → Is d v h' → (∀ a, v = .ref a → s.heap.get? a = none) → Q v { s with heap := h', toks := tk }) : wpAny (model prog w) A t Q E s := by
  refine wpAny_mono (x s e) (fun v s' q => ?_) fun _ _ f => f.elim
  obtain ⟨⟨h', tk, rfl, hk⟩, hp, hn⟩ := q
  exact k v h' tk hk hp hn
theorem EvF.of {t : Sem Value} {d : D} (x : ∀ (s : Shared) (Q : Value → Shared → Prop), Ext h s.heap →
    (∀ v h' tk, Ext s.heap h' → Is d v h' → (∀ a, v = .ref a → s.heap.get? a = none) → Q v { s with heap := h', toks := tk }) → wpAny (model prog w) A t Q (fun _ _ => False) s) : EvF prog w A h t d :=
  fun s e => x s _ e fun v h' tk hk hp hn => ⟨⟨h', tk, rfl, hk⟩, hp, hn⟩
theorem EvF.ev {t : Sem Value} {d : D} (x : EvF prog w A h t d) : Ev prog w A h t (Is d) := Ev.of fun s Q e q => x.use e fun v h' tk k p _ => q v h' tk k p
theorem EvF.ofInt {t : Sem Value} {i : Int} (x : Ev prog w A h t (Is (.int i))) : EvF prog w A h t (.int i) :=
  EvF.of fun s Q e q => x.use e fun v h' tk k p => q v h' tk k p fun a ea => by obtain ⟨u, rfl⟩ := p; cases ea
theorem EvF.up {t : Sem Value} {d : D} {h' : Heap} (x : EvF prog w A h t d) (e : Ext h h') : EvF prog w A h' t d := fun s q => x s (e.trans q)
end

theorem IsAll.snoc {h : Heap} : ∀ {ds : List D} {vs : List Value} {d : D} {v : Value}, IsAll h ds vs → Is d v h → IsAll h (ds ++ [d]) (vs ++ [v])
  | _, _, _, _, .nil, x => .cons x .nil
  | _, _, _, _, .cons y r, x => .cons y (IsAll.snoc r x)
/-- items of a list under way: none is the list itself -/
structure Items (h : Heap) (D0 : Addr) (ds : List D) (ys : Array Value) : Prop where
  all : IsAll h ds ys.toList
  flat : ∀ d ∈ ds, Flat d
  apart : ∀ y ∈ ys.toList, y ≠ .ref D0
theorem IsAll.but {h h' : Heap} {a : Addr} (hs : Heap.SameBut a h h') : ∀ {ds : List D} {vs : List Value}, IsAll h ds vs → (∀ d ∈ ds, Flat d) → (∀ y ∈ vs, y ≠ .ref a) → IsAll h' ds vs
  | _, _, .nil, _, _ => .nil
  | _, _, .cons x r, f, n => .cons (x.but (f _ (.head _)) (n _ (.head _)) hs) (IsAll.but hs r (fun d q => f d (.tail _ q)) fun y q => n y (.tail _ q))
theorem Items.l {h h' : Heap} {D0 : Addr} {ds : List D} {ys : Array Value} (x : Items h D0 ds ys) (e : LExt h h') : Items h' D0 ds ys := ⟨x.all.l e, x.flat, x.apart⟩
theorem Items.push {h h' : Heap} {D0 : Addr} {ds : List D} {ys : Array Value} {d : D} {v : Value} (x : Items h D0 ds ys) (hs : Heap.SameBut D0 h h') (i : Is d v h) (f : Flat d) (n : v ≠ .ref D0) : Items h' D0 (ds ++ [d]) (ys.push v) := by
  refine ⟨?_, ?_, ?_⟩
  · rw [Array.toList_push]; exact (x.all.but hs x.flat x.apart).snoc (i.but f n hs)
  · intro e he; rcases List.mem_append.mp he with q | q
    · exact x.flat e q
    · rw [List.mem_singleton.mp q]; exact f
  · intro y hy; rw [Array.toList_push] at hy; rcases List.mem_append.mp hy with q | q
    · exact x.apart y q
    · rw [List.mem_singleton.mp q]; exact n
theorem Items.nil {h : Heap} {D0 : Addr} : Items h D0 [] #[] := ⟨.nil, fun _ q => (nomatch q), fun _ q => by simp at q⟩

/-- a walk over things whose mark is not firm -/
structure Way (prog : Program) (w : World) (A : Around) (I : Addr) (fp wr : List Addr) (n : Nat) (P : Nat → Value → Prop) (St : Nat → Heap → Prop) : Prop where
  walks : Walks prog w A I fp wr n P St
  soft : ∀ i H, St i H → ∀ b ∈ wr, ∀ o, H.get? b = some o → ¬ Firm o
theorem way_l {prog : Program} {w : World} {A : Around} {I : Addr} {fp wr : List Addr} {n : Nat} {P : Nat → Value → Prop} {St : Nat → Heap → Prop} (W : Way prog w A I fp wr n P St) {i : Nat} {H H' : Heap} (st : St i H)
    (k : ∀ b o, b ∉ wr → H.get? b = some o → H'.get? b = some o) : LExt H H' := fun b o e f => k b o (fun hb => W.soft i H st b hb o e f) e
theorem way_list {prog : Program} {w : World} {A : Around} (hh : A.handled = none) (I ax : Addr) (hne : ax ≠ I) (items : Array Value) :
    Way prog w A I [I, ax] [I] items.size (fun i v => items[i]? = some v) (fun i h => h.IsListIter I ax i ∧ h.IsList ax items) :=
  ⟨Walks.list hh I ax hne items, fun i H st b hb o e f => by
    rw [List.mem_singleton.mp hb] at e
    obtain ⟨⟨o', ho, hc, hd⟩, _⟩ := st
    rw [ho] at e; cases e
    rcases f with ⟨xs, n, d⟩ | ⟨c, _⟩
    · rw [hd] at d; cases d
    · rw [hc] at c; exact absurd c (by decide)⟩
theorem way_range {prog : Program} {w : World} {A : Around} (hh : A.handled = none) (I : Addr) (a c : Int) (n : Nat) :
    Way prog w A I [I] [I] n (fun i v => ∃ t, v = .int (a + i * c) t) (fun i h => IsRangeIter h I (a + (i : Nat) * c) ((n : Int) - (i : Nat)) c) :=
  ⟨Walks.range hh I a c n, fun i H st b hb o e f => by
    rw [List.mem_singleton.mp hb] at e
    have st : H.get? I = _ := st
    rw [st] at e; cases e
    rcases f with ⟨xs, n, d⟩ | ⟨c, _⟩
    · cases d
    · exact absurd c (show Value.type "range_iterator" ≠ Value.type "range" from by decide)⟩

def picked (n : Nat) (p : Nat → Bool) (f : Nat → D) : List D := ((List.range n).filter p).map f
theorem picked_succ (n : Nat) (p : Nat → Bool) (f : Nat → D) : picked (n + 1) p f = picked n p f ++ (if p n = true then [f n] else []) := by
  unfold picked
  rw [List.range_succ, List.filter_append, List.map_append]
  congr 1
  cases h : p n <;> simp [h]

section
variable {prog : Program} {w : World} {A : Around} {R : Result → Shared → Prop} {s : Shared}

abbrev Tests (prog : Program) (w : World) (A : Around) (H : Heap) (ifs : List PySem.Expr) (cenv : Env) (b : Bool) : Prop :=
  Ev prog w A H (forIn ifs true fun c r => if r = true then do let ok ← isTrue c cenv (eval c cenv); pure (ForInStep.yield ok) else pure (ForInStep.yield r)) fun ok _ => ok = b
theorem tests_nil {H : Heap} {cenv : Env} : Tests prog w A H [] cenv true := Ev.of fun s Q e q => wpAny_tests_nil (q _ s.heap s.toks (Ext.refl _) rfl)
theorem tests_one {H : Heap} {cenv : Env} {c : PySem.Expr} {b : Bool} (x : Te prog w A cenv H c b) : Tests prog w A H [c] cenv b := Ev.of fun s Q e q => wpAny_tests_one (x.use e q)

theorem compLoop1 {elt iter : PySem.Expr} {x : Str} {px : Pos} {ifs : List PySem.Expr} {scope : Scope} {pos : Pos} {I D0 : Addr} {fp wr : List Addr} {n : Nat} {P : Nat → Value → Prop} {St : Nat → Heap → Prop}
    {cenv : Env} {m : Str → Option Value} {h : Heap} (W : Way prog w A I fp wr n P St) (items f : Nat → D) (p : Nat → Bool)
    (hx : cenv.kindOf x = some .local) (hp : (cenv.scope.kind == .class || (cenv.scope.kind == .module && cenv.locals != cenv.globals)) = false)
    (hDC : D0 ≠ cenv.locals) (hDf : D0 ∉ fp) (hCf : cenv.locals ∉ fp)
    (hD : h.get? D0 = none) (hC : h.get? cenv.locals = none) (hw : ∀ b ∈ wr, h.get? b = none)
    (hitem : ∀ i v, i < n → P i v → ∀ H, Ext h H → Is (items i) v H) (hflat : ∀ i, i < n → Flat (f i))
    (body : ∀ i v H m, i < n → Ext h H → H.Ns cenv.locals m → m x = some v → Is (items i) v H →
      Tests prog w A H ifs cenv (p i) ∧ (p i = true → EvF prog w A H (eval elt cenv) (f i)))
    (e0 : Ext h s.heap) (hst : St 0 s.heap) (hacc : s.heap.PlainList D0 #[]) (hn : s.heap.Ns cenv.locals m) (hsz : n ≤ 1000)
    (hR : ∀ H tk m' ys, Ext h H → H.Ns cenv.locals m' → H.PlainList D0 ys → IsAll H (picked n p f) ys.toList → R (.ok .next) { s with heap := H, toks := tk }) :
    codeAny (model prog w) A (.compLoop (.ListComp elt [⟨.Name x px, iter, ifs, 0⟩] scope pos) 0 (.ref I) (.ref D0) cenv) R s := by
  refine codeAny_compLoop_tests
    (fun k s' => ∃ i H tk m' ys, s' = { s with heap := H, toks := tk } ∧ St i H ∧ Ext h H ∧ H.PlainList D0 ys ∧ H.Ns cenv.locals m' ∧ Items H D0 (picked i p f) ys ∧ i ≤ n ∧ ys.size ≤ i ∧ k = n + 1 - i) ?_ (n + 1)
    ⟨0, s.heap, s.toks, m, #[], rfl, hst, e0, hacc, hn, Items.nil, Nat.zero_le _, Nat.zero_le _, rfl⟩
  rintro k s' ⟨i, H, tk, m', ys, rfl, st, e, hpl, hns, its, hi, hys, rfl⟩
  have hCw : cenv.locals ∉ wr := fun q => hCf (W.walks.sub _ q)
  have hDw : D0 ∉ wr := fun q => hDf (W.walks.sub _ q)
  by_cases hlt : i < n
  · refine W.walks.item i _ _ _ hlt st fun v h₁ tk₁ hPv st₁ k₁ => ?_
    have e₁ : Ext h h₁ := fun b o q => k₁ b o (fun hb => by rw [hw b hb] at q; cases q) (e b o q)
    have l₁ : LExt H h₁ := way_l W st k₁
    have n₁ : h₁.Ns cenv.locals m' := hns.at' fun o q => k₁ _ o hCw q
    refine wpAny_assign_Name (wpAny_storeName_local hx n₁ (fun h₂ hn₂ hs₂ => ?_) hp)
    have e₂ : Ext h h₂ := fun b o q => hs₂.extBut b o (fun hb => by rw [hb, hC] at q; cases q) (e₁ b o q)
    have l₂ : LExt H h₂ := l₁.trans (LExt.ofNs n₁ hs₂)
    have st₂ : St (i + 1) h₂ := W.walks.frame _ _ _ st₁ fun b hb o q => hs₂.extBut b o (fun z => hCf (z ▸ hb)) q
    obtain ⟨bt, be⟩ := body i v h₂ _ hlt e₂ hn₂ (by simp) (hitem i v hlt hPv h₂ e₂)
    refine bt.use (Ext.refl _) fun ok h₃ t₃ k₃ p₃ => ?_
    subst p₃
    have st₃ : St (i + 1) h₃ := W.walks.frame _ _ _ st₂ fun b _ o q => k₃ b o q
    have n₃ := hn₂.keeps k₃
    cases hpi : p i with
    | false =>
      simp only [Bool.false_eq_true, if_false]
      refine ⟨n + 1 - (i + 1), by omega, i + 1, h₃, t₃, _, ys, rfl, st₃, e₂.trans k₃, (l₂.trans k₃.l).plain hpl, n₃, ?_, hlt, Nat.le_succ_of_le hys, rfl⟩
      have : picked (i + 1) p f = picked i p f := by rw [picked_succ, hpi]; simp
      rw [this]; exact its.l (l₂.trans k₃.l)
    | true =>
      simp only [if_true]
      refine (be hpi).use (s := { s with heap := h₃, toks := t₃ }) k₃ fun y h₄ t₄ k₄ p₄ f₄ => ?_
      have hpl₄ : h₄.PlainList D0 ys := (l₂.trans (k₃.trans k₄).l).plain hpl
      have hyD : y ≠ .ref D0 := fun q => by
        obtain ⟨n', ho⟩ := (l₂.trans k₃.l).plain hpl
        have := f₄ D0 q
        rw [show ({ s with heap := h₃, toks := t₃ } : Shared).heap = h₃ from rfl, ho] at this; cases this
      refine wpAny_list_append_plain (s := { s with heap := h₄, toks := t₄ }) hpl₄ (fun h₅ hl₅ hs₅ => ?_) (by rw [sizeLine_eq]; omega)
      refine ⟨n + 1 - (i + 1), by omega, i + 1, h₅, t₄, _, ys.push y, rfl, ?_, ?_, hl₅, (n₃.keeps k₄).sameBut hs₅ (Ne.symm hDC), ?_, hlt, by rw [Array.size_push]; omega, rfl⟩
      · exact W.walks.frame _ _ _ st₃ fun b hb o q => hs₅.extBut b o (fun z => hDf (z ▸ hb)) (k₄ b o q)
      · exact fun b o q => hs₅.extBut b o (fun hb => by rw [hb, hD] at q; cases q) ((e₂.trans (k₃.trans k₄)) b o q)
      · have : picked (i + 1) p f = picked i p f ++ [f i] := by rw [picked_succ, hpi]; simp
        rw [this]; exact (its.l (l₂.trans (k₃.trans k₄).l)).push hs₅ p₄ (hflat i hlt) hyD
  · have hin : i = n := by omega
    subst hin
    refine W.walks.done _ _ _ st fun h₁ tk₁ k₁ => ?_
    refine hR h₁ tk₁ m' ys (fun b o q => k₁ b o (fun hb => by rw [hw b hb] at q; cases q) (e b o q)) (hns.at' fun o q => k₁ _ o hCw q) ((way_l W st k₁).plain hpl) (its.l (way_l W st k₁)).all
end

/-- what may be gone through -/
inductive Src : D → Nat → (Nat → D) → Prop
  | range {a b c : Int} {n : Nat} : Builtin.Range.small a b c = true → Builtin.Range.rangeSize a b c = (n : Int) → Src (.range a b c) n fun i => .int (a + i * c)
  | zs (ns : List Int) : Src (.zs ns) ns.length fun i => .int (ns.getD i 0)
  | zss (nss : List (List Int)) : Src (.zss nss) nss.length fun i => .zs (nss.getD i [])

structure Going (prog : Program) (w : World) (A : Around) (h h' : Heap) (v₀ : Value) (n : Nat) (items : Nat → D) (I : Addr) (fp wr : List Addr) (P : Nat → Value → Prop) (St : Nat → Heap → Prop) : Prop where
  way : Way prog w A I fp wr n P St
  st : St 0 h'
  ext : Ext h h'
  fresh : ∀ b ∈ wr, h.get? b = none
  low : ∀ b ∈ fp, b < h'.objs.size
  live : ∀ b ∈ fp, ∀ m, ¬ h.Ns b m
  own : ∀ b ∈ fp, h.get? b = none ∨ (v₀ = .ref b ∧ ∃ xs, h.IsList b xs)
  item : ∀ i v, i < n → P i v → ∀ H, Ext h H → Is (items i) v H

section
variable {prog : Program} {w : World} {A : Around} {s : Shared} {E : Value → Shared → Prop}
theorem none_of_ge {h : Heap} {a : Addr} (q : h.objs.size ≤ a) : h.get? a = none := by
  cases e : h.get? a with
  | none => rfl
  | some o => exact absurd (Heap.lt_size e) (Nat.not_lt.mpr q)
theorem iter_way {d : D} {n : Nat} {items : Nat → D} {v : Value} {Q : Value → Shared → Prop} (hh : A.handled = none) (x : Src d n items) (i : Is d v s.heap)
    (k : ∀ I fp wr P St h', Going prog w A s.heap h' v n items I fp wr P St → Q (.ref I) { s with heap := h' }) : wpAny (model prog w) A (pyIter v) Q E s := by
  cases x with
  | range hs hn =>
    obtain ⟨r, t, u, y, rfl, hr⟩ := i
    refine wpAny_pyIter_range hr hs ?_
    refine k _ _ _ _ _ _ ⟨way_range hh s.heap.objs.size _ _ n, ?_, ext_push _, fun b hb => ?_, fun b hb => ?_, fun b hb m q => ?_, fun b hb => ?_, fun i v _ p H e => p⟩
    · show IsRangeIter _ _ _ _ _
      rw [hn]
      simpa using Heap.get?_push_size _ rfl
    · rw [List.mem_singleton.mp hb]; exact none_of_ge (Nat.le_refl _)
    · rw [List.mem_singleton.mp hb, Heap.size_push]; exact Nat.lt_succ_self _
    · rw [List.mem_singleton.mp hb] at q
      obtain ⟨o, _, _, ho, _⟩ := q
      exact absurd (Heap.lt_size ho) (Nat.lt_irrefl _)
    · rw [List.mem_singleton.mp hb]; exact .inl (none_of_ge (Nat.le_refl _))
  | zs ns =>
    obtain ⟨a, vs, rfl, hl, hi⟩ := i
    have hne : a ≠ s.heap.objs.size := Nat.ne_of_lt (let ⟨o, ho, _⟩ := hl; Heap.lt_size ho)
    have hlen : vs.toArray.size = ns.length := by simp [hi.length]
    refine wpAny_pyIter_list hl ?_
    refine k _ _ _ _ _ _ ⟨hlen ▸ way_list hh s.heap.objs.size a hne vs.toArray, ⟨⟨_, Heap.get?_push_size _ rfl, rfl, rfl⟩, hl.push _⟩, ext_push _, fun b hb => ?_, fun b hb => ?_, fun b hb m q => ?_, fun b hb => ?_, fun i v hi' p H e => ?_⟩
    · rw [List.mem_singleton.mp hb]; exact none_of_ge (Nat.le_refl _)
    · rw [Heap.size_push]
      rcases List.mem_cons.mp hb with e | hb
      · rw [e]; exact Nat.lt_succ_self _
      · rw [List.mem_singleton.mp hb]; exact Nat.lt_succ_of_lt (let ⟨o, ho, _⟩ := hl; Heap.lt_size ho)
    · rcases List.mem_cons.mp hb with e | hb
      · obtain ⟨o, _, _, ho, _⟩ := q
        rw [e] at ho
        exact absurd (Heap.lt_size ho) (Nat.lt_irrefl _)
      · obtain ⟨o, _, _, ho, hd, _⟩ := q
        obtain ⟨o', ho', _, _, hd'⟩ := hl
        rw [List.mem_singleton.mp hb, ho'] at ho
        cases ho; rw [hd'] at hd; cases hd
    · rcases List.mem_cons.mp hb with e | hb
      · rw [e]; exact .inl (none_of_ge (Nat.le_refl _))
      · rw [List.mem_singleton.mp hb]; exact .inr ⟨rfl, _, hl⟩
    · obtain ⟨t, ht⟩ := intsAre_get hi hi'
      have p' : vs[i]? = some v := by simpa using p
      rw [ht] at p'; cases p'
      exact ⟨t, rfl⟩
  | zss nss =>
    obtain ⟨a, vs, rfl, hl, hi⟩ := i
    have hne : a ≠ s.heap.objs.size := Nat.ne_of_lt (let ⟨o, ho, _⟩ := hl; Heap.lt_size ho)
    have hlen : vs.toArray.size = nss.length := by simp [paired_length hi]
    refine wpAny_pyIter_list hl ?_
    refine k _ _ _ _ _ _ ⟨hlen ▸ way_list hh s.heap.objs.size a hne vs.toArray, ⟨⟨_, Heap.get?_push_size _ rfl, rfl, rfl⟩, hl.push _⟩, ext_push _, fun b hb => ?_, fun b hb => ?_, fun b hb m q => ?_, fun b hb => ?_, fun i v hi' p H e => ?_⟩
    · rw [List.mem_singleton.mp hb]; exact none_of_ge (Nat.le_refl _)
    · rw [Heap.size_push]
      rcases List.mem_cons.mp hb with e | hb
      · rw [e]; exact Nat.lt_succ_self _
      · rw [List.mem_singleton.mp hb]; exact Nat.lt_succ_of_lt (let ⟨o, ho, _⟩ := hl; Heap.lt_size ho)
    · rcases List.mem_cons.mp hb with e | hb
      · obtain ⟨o, _, _, ho, _⟩ := q
        rw [e] at ho
        exact absurd (Heap.lt_size ho) (Nat.lt_irrefl _)
      · obtain ⟨o, _, _, ho, hd, _⟩ := q
        obtain ⟨o', ho', _, _, hd'⟩ := hl
        rw [List.mem_singleton.mp hb, ho'] at ho
        cases ho; rw [hd'] at hd; cases hd
    · rcases List.mem_cons.mp hb with e | hb
      · rw [e]; exact .inl (none_of_ge (Nat.le_refl _))
      · rw [List.mem_singleton.mp hb]; exact .inr ⟨rfl, _, hl⟩
    · obtain ⟨u, hu, hF⟩ := paired_get hi i hi'
      have p' : vs[i]? = some v := by simpa using p
      rw [hu] at p'; cases p'
      exact hF.l e.l

variable {h : Heap} {env : Env}
theorem ev_comp1 {elt iter : PySem.Expr} {x : Str} {px : Pos} {ifs : List PySem.Expr} {scope : Scope} {pos : Pos} {cl : List (Str × Addr)} {d : D} {n : Nat} {items : Nat → D} (f : Nat → D) (p : Nat → Bool)
    (hh : A.handled = none) (src : Ev prog w A h (eval iter env) (Is d)) (hsrc : Src d n items) (hsz : n ≤ 1000) (hflat : ∀ i, i < n → Flat (f i))
    (hclos : closureFor scope env = pure cl) (hcell : ∀ y ∈ scope.names, y.2 ≠ .cell) (hkind : scope.kind = .function)
    (hnames : ∀ y ∈ scope.names, y.2 = .local → scope.names.lookup y.1 = some .local) (hx : scope.names.lookup x = some .local)
    (body : ∀ C i v H m, i < n → Ext h H → H.Ns C m → m x = some v → Is (items i) v H →
      Tests prog w A H ifs (compEnvC scope cl C env) (p i) ∧ (p i = true → EvF prog w A H (eval elt (compEnvC scope cl C env)) (f i)))
    (hs : ∀ x, foldedSetIterable iter env x = pure x := by intro _; rfl) :
    Ev prog w A h (eval (.ListComp elt [⟨.Name x px, iter, ifs, 0⟩] scope pos) env) fun v H => ∃ a ys, v = .ref a ∧ H.PlainList a ys ∧ IsAll H (picked n p f) ys.toList := by
  refine Ev.of fun s Q e q => ?_
  rw [eval_ListComp]
  refine wpAny_comprehension_free (use := none) rfl hs hclos hkind hnames (src.use e fun xv h₁ t₁ k₁ p₁ => iter_way (s := { s with heap := h₁, toks := t₁ }) hh hsrc p₁ fun I fp wr P St h₂ g => ?_)
  refine wpAny_newObj_type (wpAny_newFunctionEnv hcell (by intro y hy; simp at hy) (fun h₃ hns hsb => ?_) hkind)
  dsimp only at hns hsb ⊢
  generalize hH2 : h₂.push { cls := .type "list", dict := none, data := .seq ([] : List Value).toArray } = H2 at hns hsb ⊢
  have hC : H2.objs.size = h₂.objs.size + 1 := by rw [← hH2, Heap.size_push]
  have old : ∀ b o, h₂.get? b = some o → h₃.get? b = some o := fun b o z => hsb.extBut b o (by rw [hC]; exact Nat.ne_of_lt (Nat.lt_succ_of_lt (Heap.lt_size z))) (Heap.get?_push_of_some _ (hH2 ▸ Heap.get?_push_of_some _ z))
  have hDC : h₂.objs.size ≠ H2.objs.size := by rw [hC]; exact Nat.ne_of_lt (Nat.lt_succ_self _)
  have hacc : h₃.PlainList h₂.objs.size #[] := ⟨_, hsb.extBut _ _ hDC (Heap.get?_push_of_some _ (hH2 ▸ Heap.get?_push_size _ rfl))⟩
  have hst₃ : St 0 h₃ := g.way.walks.frame _ _ _ g.st fun b _ o z => old b o z
  have new : ∀ a, h₂.objs.size ≤ a → h₁.get? a = none := fun a ha => by
    cases z : h₁.get? a with
    | none => rfl
    | some o => exact absurd (Heap.lt_size (g.ext a o z)) (Nat.not_lt.mpr ha)
  have loop : ∀ s₃ : Shared, s₃ = { s with heap := h₃, toks := t₁ + ([] : List (Str × Value)).length } →
      codeAny (model prog w) A (.compLoop (.ListComp elt [⟨.Name x px, iter, ifs, 0⟩] scope pos) 0 (.ref I) (.ref h₂.objs.size) (compEnvC scope cl H2.objs.size env))
        (compPost (model prog w) A (fun _ _ => False) none Q (.ref h₂.objs.size) H2.objs.size) s₃ := by
    rintro s₃ rfl
    refine compLoop1 (h := h₁) (cenv := compEnvC scope cl H2.objs.size env) g.way items f p (lookup_relabel_local hx) (by simp [compEnvC, relabel, hkind]) hDC
      (fun z => absurd (g.low _ z) (Nat.lt_irrefl _)) (fun z => absurd (g.low _ z) (by show ¬ H2.objs.size < _; rw [hC]; omega)) (new _ (Nat.le_refl _)) (new _ (by show _ ≤ H2.objs.size; rw [hC]; exact Nat.le_succ _)) g.fresh g.item hflat
      (fun i v H m hi eH hm hv hI => body H2.objs.size i v H m hi ((e.trans k₁).trans eH) hm hv hI)
      (fun b o z => old b o (g.ext b o z)) hst₃ hacc hns hsz fun H tk m' ys eH hm' hpl hall => ?_
    refine ⟨m', hm', fun h' hs' => q _ h' tk (fun b o z => hs'.extBut b o (fun y => ?_) (eH b o (k₁ b o z))) ⟨_, ys, rfl, ?_, ?_⟩⟩
    · have := k₁ b o z
      rw [y, new _ (by show _ ≤ H2.objs.size; rw [hC]; exact Nat.le_succ _)] at this; cases this
    · exact (LExt.ofNs hm' hs').plain hpl
    · exact hall.l (LExt.ofNs hm' hs')
  exact codeAny_compStart_list (loop _ rfl) (g.way.walks.self 0 _ _ _ hst₃ (loop _ rfl))

/-- what is picked, as ints or as lists -/
theorem picked_zs {h : Heap} {v : Value} {n : Nat} {p : Nat → Bool} {g : Nat → Int} (x : ∃ a ys, v = .ref a ∧ h.PlainList a ys ∧ IsAll h (picked n p fun i => .int (g i)) ys.toList) : Is (.zs (((List.range n).filter p).map g)) v h := by
  obtain ⟨a, ys, rfl, hp, hall⟩ := x
  refine ⟨a, ys.toList, rfl, ?_, ints_of_all (h := h) ?_⟩
  · simpa using plain_isList hp
  · have : picked n p (fun i => .int (g i)) = (((List.range n).filter p).map g).map .int := by simp [picked, List.map_map, Function.comp_def]
    rw [← this]; exact hall
theorem paired_of_all {h : Heap} : ∀ {nss : List (List Int)} {vs : List Value}, IsAll h (nss.map .zs) vs → Paired (IsInts h) vs nss
  | [], _, .nil => .nil
  | _ :: _, _, .cons x r => .cons x (paired_of_all r)
theorem picked_zss {h : Heap} {v : Value} {n : Nat} {p : Nat → Bool} {g : Nat → List Int} (x : ∃ a ys, v = .ref a ∧ h.PlainList a ys ∧ IsAll h (picked n p fun i => .zs (g i)) ys.toList) : Is (.zss (((List.range n).filter p).map g)) v h := by
  obtain ⟨a, ys, rfl, hp, hall⟩ := x
  refine ⟨a, ys.toList, rfl, ?_, paired_of_all (h := h) ?_⟩
  · simpa using plain_isList hp
  · have : picked n p (fun i => .zs (g i)) = (((List.range n).filter p).map g).map .zs := by simp [picked, List.map_map, Function.comp_def]
    rw [← this]; exact hall
end
end Mine
end

section -- Cp2
open PySem PySem.W PyProof.Rows PySem.Calls
set_option Elab.async false
set_option maxRecDepth 100000
set_option maxHeartbeats 2000000
set_option linter.unusedVariables false
namespace Mine

abbrev lc2 (elt i0 i1 : PySem.Expr) (x0 x1 : Str) (p0 p1 : Pos) (scope : Scope) (pos : Pos) : PySem.Expr := .ListComp elt [⟨.Name x0 p0, i0, [], 0⟩, ⟨.Name x1 p1, i1, [], 0⟩] scope pos

theorem compTurn_in (elt i0 i1 : PySem.Expr) (x0 x1 : Str) (p0 p1 : Pos) (scope : Scope) (pos : Pos) (it acc : Value) (env : Env) :
    compTurn (lc2 elt i0 i1 x0 x1 p0 p1 scope pos) 1 it acc env = (do
      standAt i1.pos
      match ← pyNext it with
      | none => pure (.done .next)
      | some v =>
        letOwnedTupleGo (.Name x1 p1) it v
        assign (.Name x1 p1) env v
        (do let _ ← call (.builtin "list.append") [acc, ← eval elt env])
        again (.compLoop (lc2 elt i0 i1 x0 x1 p0 p1 scope pos) 1 it acc env)) := by rfl
theorem compTurn_out (elt i0 i1 : PySem.Expr) (x0 x1 : Str) (p0 p1 : Pos) (scope : Scope) (pos : Pos) (it acc : Value) (env : Env) :
    compTurn (lc2 elt i0 i1 x0 x1 p0 p1 scope pos) 0 it acc env = (do
      standAt i0.pos
      match ← pyNext it with
      | none => pure (.done .next)
      | some v =>
        letOwnedTupleGo (.Name x0 p0) it v
        assign (.Name x0 p0) env v
        let x ← eval i1 env
        standAt i1.pos
        let x ← foldedSetIterable i1 env x
        let _ ← runOwn (.compStart (lc2 elt i0 i1 x0 x1 p0 p1 scope pos) 1 (← holding [x] (pyIter x)) acc env) env
        again (.compLoop (lc2 elt i0 i1 x0 x1 p0 p1 scope pos) 0 it acc env)) := by rfl

section
variable {prog : Program} {w : World} {A : Around} {R : Result → Shared → Prop} {s : Shared}

theorem compLoop_in {elt i0 i1 : PySem.Expr} {x0 x1 : Str} {p0 p1 : Pos} {scope : Scope} {pos : Pos} {I D0 : Addr} {fp wr : List Addr} {n : Nat} {P : Nat → Value → Prop} {St : Nat → Heap → Prop}
    {cenv : Env} {m : Str → Option Value} {h : Heap} {ds : List D} {ys₀ : Array Value} (W : Way prog w A I fp wr n P St) (items f : Nat → D)
    (hx : cenv.kindOf x1 = some .local) (hp : (cenv.scope.kind == .class || (cenv.scope.kind == .module && cenv.locals != cenv.globals)) = false)
    (hDC : D0 ≠ cenv.locals) (hDf : D0 ∉ fp) (hCf : cenv.locals ∉ fp)
    (hD : h.get? D0 = none) (hC : h.get? cenv.locals = none) (hw : ∀ b ∈ wr, h.get? b = none)
    (hitem : ∀ i v, i < n → P i v → ∀ H, Ext h H → Is (items i) v H) (hflat : ∀ i, i < n → Flat (f i))
    (body : ∀ i v H m', i < n → Ext h H → H.Ns cenv.locals m' → m' x1 = some v → (∀ y, y ≠ x1 → m' y = m y) → Is (items i) v H → EvF prog w A H (eval elt cenv) (f i))
    (e0 : Ext h s.heap) (hst : St 0 s.heap) (hacc : s.heap.PlainList D0 ys₀) (hits : Items s.heap D0 ds ys₀) (hn : s.heap.Ns cenv.locals m) (hsz : ys₀.size + n ≤ 1000)
    (hR : ∀ H tk m' ys, (∀ b o, b ≠ cenv.locals → b ≠ D0 → b ∉ wr → s.heap.get? b = some o → H.get? b = some o) → H.Ns cenv.locals m' → (∀ y, y ≠ x1 → m' y = m y) → H.PlainList D0 ys → Items H D0 (ds ++ picked n (fun _ => true) f) ys → ys.size ≤ ys₀.size + n →
      R (.ok .next) { s with heap := H, toks := tk }) :
    codeAny (model prog w) A (.compLoop (lc2 elt i0 i1 x0 x1 p0 p1 scope pos) 1 (.ref I) (.ref D0) cenv) R s := by
  refine codeAny_loop rfl
    (fun k s' => ∃ i H tk m' ys, s' = { s with heap := H, toks := tk } ∧ St i H ∧ (∀ b o, b ≠ cenv.locals → b ≠ D0 → b ∉ wr → s.heap.get? b = some o → H.get? b = some o) ∧ H.PlainList D0 ys ∧ H.Ns cenv.locals m' ∧ (∀ y, y ≠ x1 → m' y = m y) ∧
      Items H D0 (ds ++ picked i (fun _ => true) f) ys ∧ i ≤ n ∧ ys.size ≤ ys₀.size + i ∧ k = n + 1 - i) (fun k s' hI => ?_) (n + 1)
    ⟨0, s.heap, s.toks, m, ys₀, rfl, hst, fun _ _ _ _ _ q => q, hacc, hn, fun _ _ => rfl, by simpa [picked] using hits, Nat.zero_le _, Nat.le_refl _, rfl⟩
  obtain ⟨i, H, tk, m', ys, rfl, st, kp, hpl, hns, hm, its, hi, hys, rfl⟩ := hI
  show wpAny _ A ((compTurn (lc2 elt i0 i1 x0 x1 p0 p1 scope pos) 1 (.ref I) (.ref D0) cenv).onRaise (fun x => do noteFrame x cenv; theTreesLotGoes x)) _ _ _
  refine wpAny_noted ?_
  rw [compTurn_in]
  refine wpAny_bind (wpAny_standAt (wpAny_bind ?_))
  have hCw : cenv.locals ∉ wr := fun q => hCf (W.walks.sub _ q)
  have hDw : D0 ∉ wr := fun q => hDf (W.walks.sub _ q)
  have e : Ext h H := fun b o q => kp b o (fun z => by rw [z, hC] at q; cases q) (fun z => by rw [z, hD] at q; cases q) (fun hb => by rw [hw b hb] at q; cases q) (e0 b o q)
  by_cases hlt : i < n
  · refine W.walks.item i _ _ _ hlt st fun v h₁ tk₁ hPv st₁ k₁ => ?_
    have e₁ : Ext h h₁ := fun b o q => k₁ b o (fun hb => by rw [hw b hb] at q; cases q) (e b o q)
    have l₁ : LExt H h₁ := way_l W st k₁
    have n₁ : h₁.Ns cenv.locals m' := hns.at' fun o q => k₁ _ o hCw q
    refine wpAny_bind (wpAny_pure (wpAny_bind ?_))
    refine wpAny_assign_Name (wpAny_storeName_local hx n₁ (fun h₂ hn₂ hs₂ => ?_) hp)
    have e₂ : Ext h h₂ := fun b o q => hs₂.extBut b o (fun hb => by rw [hb, hC] at q; cases q) (e₁ b o q)
    have l₂ : LExt H h₂ := l₁.trans (LExt.ofNs n₁ hs₂)
    have st₂ : St (i + 1) h₂ := W.walks.frame _ _ _ st₁ fun b hb o q => hs₂.extBut b o (fun z => hCf (z ▸ hb)) q
    have be := body i v h₂ _ hlt e₂ hn₂ (by simp) (fun y hy => by simp [hy, hm y hy]) (hitem i v hlt hPv h₂ e₂)
    refine wpAny_bind (wpAny_bind (be.use (Ext.refl _) fun y h₄ t₄ k₄ p₄ f₄ => ?_))
    have hpl₄ : h₄.PlainList D0 ys := (l₂.trans k₄.l).plain hpl
    have hyD : y ≠ .ref D0 := fun q => by
      obtain ⟨n', ho⟩ := l₂.plain hpl
      have := f₄ D0 q
      rw [show ({ s with heap := h₂, toks := tk₁ + 1 } : Shared).heap = h₂ from rfl, ho] at this; cases this
    refine wpAny_bind (wpAny_list_append_plain (s := { s with heap := h₄, toks := t₄ }) hpl₄ (fun h₅ hl₅ hs₅ => ?_) (by rw [sizeLine_eq]; omega))
    refine wpAny_pure (wpAny_pure ⟨rfl, n + 1 - (i + 1), by omega, i + 1, h₅, t₄, _, ys.push y, rfl, ?_, ?_, hl₅, (hn₂.keeps k₄).sameBut hs₅ (Ne.symm hDC), fun z hz => by simp [hz, hm z hz], ?_, hlt, by rw [Array.size_push]; omega, rfl⟩)
    · exact W.walks.frame _ _ _ st₂ fun b hb o q => hs₅.extBut b o (fun z => hDf (z ▸ hb)) (k₄ b o q)
    · exact fun b o hb1 hb2 hb3 q => hs₅.extBut b o hb2 (k₄ b o (hs₂.extBut b o hb1 (k₁ b o hb3 (kp b o hb1 hb2 hb3 q))))
    · have : ds ++ picked (i + 1) (fun _ => true) f = (ds ++ picked i (fun _ => true) f) ++ [f i] := by rw [picked_succ]; simp
      rw [this]; exact (its.l (l₂.trans k₄.l)).push hs₅ p₄ (hflat i hlt) hyD
  · have hin : i = n := by omega
    subst hin
    refine W.walks.done _ _ _ st fun h₁ tk₁ k₁ => ?_
    refine wpAny_pure (hR h₁ tk₁ m' ys (fun b o h1 h2 h3 q => k₁ b o h3 (kp b o h1 h2 h3 q)) (hns.at' fun o q => k₁ _ o hCw q) hm ((way_l W st k₁).plain hpl) (its.l (way_l W st k₁)) hys)

theorem compStart_in {elt i0 i1 : PySem.Expr} {x0 x1 : Str} {p0 p1 : Pos} {scope : Scope} {pos : Pos} {it acc : Value} {env : Env}
    (h0 : codeAny (model prog w) A (.compLoop (lc2 elt i0 i1 x0 x1 p0 p1 scope pos) 1 it acc env) R s)
    (h : wpAny (model prog w) A (pyIter it) (fun it' s' => codeAny (model prog w) A (.compLoop (lc2 elt i0 i1 x0 x1 p0 p1 scope pos) 1 it' acc env) R s')
      (notedBy (model prog w) A env fun x s' => R (.error x) s') s) :
    codeAny (model prog w) A (.compStart (lc2 elt i0 i1 x0 x1 p0 p1 scope pos) 1 it acc env) R s := by
  refine codeAny_of_tree ?_
  show wpAny _ _ ((compStart (lc2 elt i0 i1 x0 x1 p0 p1 scope pos) 1 it acc env).onRaise (fun x => do noteFrame x env; standAt theWindowsPlace)) _ _ s
  refine wpAny_notedAt ?_
  unfold compStart
  show wpAny _ _ (ask >>= _) _ _ s
  refine wpAny_bind (wpAny_askSetting (wpAny_ite ?_))
  split
  · first
      | exact wpAny_bind (wpAny_pure (wpAny_pure (And.intro rfl h0)))
      | exact wpAny_pure (And.intro rfl h0)
  · first
      | exact wpAny_bind (wpAny_rule (wpAny_bind (wpAny_standAt (wpAny_bind (wpAny_mono h (fun it' s' h' => wpAny_pure (And.intro rfl h')) fun _ _ x => x)))))
      | (refine wpAny_bind (wpAny_rule ?_); show wpAny _ _ (standAt i1.pos >>= _) _ _ s; exact wpAny_bind (wpAny_standAt (wpAny_bind (wpAny_mono h (fun it' s' h' => wpAny_pure (And.intro rfl h')) fun _ _ x => x))))

def picked2 (n : Nat) (n1 : Nat → Nat) (f : Nat → Nat → D) : List D := (List.range n).flatMap fun i => picked (n1 i) (fun _ => true) (f i)
theorem picked2_succ (n : Nat) (n1 : Nat → Nat) (f : Nat → Nat → D) : picked2 (n + 1) n1 f = picked2 n n1 f ++ picked (n1 n) (fun _ => true) (f n) := by
  unfold picked2; rw [List.range_succ, List.flatMap_append]; simp

theorem compLoop_out {elt i0 i1 : PySem.Expr} {x0 x1 : Str} {p0 p1 : Pos} {scope : Scope} {pos : Pos} {I D0 : Addr} {fp wr : List Addr} {n : Nat} {P : Nat → Value → Prop} {St : Nat → Heap → Prop}
    {cenv : Env} {m : Str → Option Value} {h : Heap} (hh : A.handled = none) (W : Way prog w A I fp wr n P St) (items : Nat → D) (d1 : Nat → D) (n1 : Nat → Nat) (items1 : Nat → Nat → D) (f : Nat → Nat → D)
    (hx0 : cenv.kindOf x0 = some .local) (hx : cenv.kindOf x1 = some .local) (hx01 : x0 ≠ x1) (hp : (cenv.scope.kind == .class || (cenv.scope.kind == .module && cenv.locals != cenv.globals)) = false)
    (hDC : D0 ≠ cenv.locals) (hDf : D0 ∉ fp) (hCf : cenv.locals ∉ fp)
    (hD : h.get? D0 = none) (hC : h.get? cenv.locals = none) (hw : ∀ b ∈ wr, h.get? b = none)
    (hitem : ∀ i v, i < n → P i v → ∀ H, Ext h H → Is (items i) v H) (hflat : ∀ i j, i < n → j < n1 i → Flat (f i j))
    (hsrc : ∀ i, i < n → Src (d1 i) (n1 i) (items1 i)) (hrange : ∀ i, i < n → ∃ a b c, d1 i = .range a b c) (hn1 : ∀ i, i < n → n1 i ≤ 10)
    (src : ∀ i v H m', i < n → Ext h H → H.Ns cenv.locals m' → m' x0 = some v → Is (items i) v H → Ev prog w A H (eval i1 cenv) (Is (d1 i)))
    (body : ∀ i j v u H m', i < n → j < n1 i → Ext h H → H.Ns cenv.locals m' → m' x0 = some v → Is (items i) v H → m' x1 = some u → Is (items1 i j) u H → EvF prog w A H (eval elt cenv) (f i j))
    (e0 : Ext h s.heap) (hst : St 0 s.heap) (hacc : s.heap.PlainList D0 #[]) (hn : s.heap.Ns cenv.locals m) (hsz : n ≤ 90)
    (hR : ∀ H tk m' ys, Ext h H → H.Ns cenv.locals m' → H.PlainList D0 ys → IsAll H (picked2 n n1 f) ys.toList → R (.ok .next) { s with heap := H, toks := tk })
    (hs : ∀ x, foldedSetIterable i1 cenv x = pure x := by intro _; rfl) :
    codeAny (model prog w) A (.compLoop (lc2 elt i0 i1 x0 x1 p0 p1 scope pos) 0 (.ref I) (.ref D0) cenv) R s := by
  refine codeAny_loop rfl
    (fun k s' => ∃ i H tk m' ys, s' = { s with heap := H, toks := tk } ∧ St i H ∧ Ext h H ∧ H.PlainList D0 ys ∧ H.Ns cenv.locals m' ∧ Items H D0 (picked2 i n1 f) ys ∧ i ≤ n ∧ ys.size ≤ 10 * i ∧ k = n + 1 - i) (fun k s' hI => ?_) (n + 1)
    ⟨0, s.heap, s.toks, m, #[], rfl, hst, e0, hacc, hn, Items.nil, Nat.zero_le _, Nat.zero_le _, rfl⟩
  obtain ⟨i, H, tk, m', ys, rfl, st, e, hpl, hns, its, hi, hys, rfl⟩ := hI
  show wpAny _ A ((compTurn (lc2 elt i0 i1 x0 x1 p0 p1 scope pos) 0 (.ref I) (.ref D0) cenv).onRaise (fun x => do noteFrame x cenv; theTreesLotGoes x)) _ _ _
  refine wpAny_noted ?_
  rw [compTurn_out]
  refine wpAny_bind (wpAny_standAt (wpAny_bind ?_))
  have hCw : cenv.locals ∉ wr := fun q => hCf (W.walks.sub _ q)
  have hDw : D0 ∉ wr := fun q => hDf (W.walks.sub _ q)
  by_cases hlt : i < n
  · refine W.walks.item i _ _ _ hlt st fun v h₁ tk₁ hPv st₁ k₁ => ?_
    have e₁ : Ext h h₁ := fun b o q => k₁ b o (fun hb => by rw [hw b hb] at q; cases q) (e b o q)
    have l₁ : LExt H h₁ := way_l W st k₁
    have n₁ : h₁.Ns cenv.locals m' := hns.at' fun o q => k₁ _ o hCw q
    refine wpAny_bind (wpAny_pure (wpAny_bind ?_))
    refine wpAny_assign_Name (wpAny_storeName_local hx0 n₁ (fun h₂ hn₂ hs₂ => ?_) hp)
    have e₂ : Ext h h₂ := fun b o q => hs₂.extBut b o (fun hb => by rw [hb, hC] at q; cases q) (e₁ b o q)
    have l₂ : LExt H h₂ := l₁.trans (LExt.ofNs n₁ hs₂)
    have st₂ : St (i + 1) h₂ := W.walks.frame _ _ _ st₁ fun b hb o q => hs₂.extBut b o (fun z => hCf (z ▸ hb)) q
    have iv := hitem i v hlt hPv h₂ e₂
    refine wpAny_bind ((src i v h₂ _ hlt e₂ hn₂ (by simp) iv).use (Ext.refl _) fun xv h₃ t₃ k₃ p₃ => wpAny_bind (wpAny_standAt (wpAny_bind (wpAny_of_eq (hs xv) (wpAny_bind (wpAny_holding ?_))))))
    refine iter_way (s := { s with heap := h₃, toks := t₃ }) hh (hsrc i hlt) p₃ fun I' fp' wr' P' St' h₄ g => ?_
    have n₄ := (hn₂.keeps k₃).keeps g.ext
    have hpl₄ : h₄.PlainList D0 ys := (l₂.trans (k₃.trans g.ext).l).plain hpl
    have its₄ := its.l (l₂.trans (k₃.trans g.ext).l)
    have e₄ : Ext h h₄ := e₂.trans (k₃.trans g.ext)
    -- the base of the inner loop: all that stands but the frame, the list and the walk
    refine wpAny_bind (wpAny_runOwn ?_)
    have hm : A.mark none = A := rfl
    rw [hm]
    obtain ⟨ra, rb, rc, hdr⟩ := hrange i hlt
    have hints : ∀ j, ∃ z, items1 i j = .int z := fun j => by
      have := hsrc i hlt
      rw [hdr] at this
      generalize n1 i = nn at this
      generalize items1 i = ii at this
      cases this with
      | range _ _ => exact ⟨_, rfl⟩
    have hpl₃ : h₃.PlainList D0 ys := (l₂.trans k₃.l).plain hpl
    have hDfp' : D0 ∉ fp' := fun z => by
      obtain ⟨n', ho⟩ := hpl₃
      rcases g.own _ z with q | ⟨q, xs, o, ho', hc, _⟩
      · rw [show ({ s with heap := h₃, toks := t₃ } : Shared).heap = h₃ from rfl, ho] at q; cases q
      · rw [hdr] at p₃
        obtain ⟨r, t, u, y, e', hr⟩ := p₃
        rw [q] at e'; cases e'
        have hr : h₃.get? D0 = _ := hr
        have hcls := congrArg (fun o => o.map Obj.cls) (ho.symm.trans hr)
        exact absurd hcls (by simp)
    have upE : ∀ HH, Ext (hideAll h₃ [D0, cenv.locals]) HH → Ext h HH := fun HH eH b o q => eH b o (hideAll_get _ ((e₂.trans k₃) b o q) (fun hb => by
      rcases List.mem_cons.mp hb with z | z
      · rw [z, hD] at q; cases q
      · rw [List.mem_singleton.mp z, hC] at q; cases q))
    have hCfp' : cenv.locals ∉ fp' := fun z => g.live _ z _ (hn₂.keeps k₃)
    have fw : ∀ b ∈ wr', h.get? b = none := fun b hb => by
      cases q : h.get? b with
      | none => rfl
      | some o => have := (e₂.trans k₃) b o q; rw [g.fresh b hb] at this; cases this
    have loop : ∀ R' : Result → Shared → Prop, (∀ H' tk' mm ys', (∀ b o, b ≠ cenv.locals → b ≠ D0 → b ∉ wr' → h₄.get? b = some o → H'.get? b = some o) → H'.Ns cenv.locals mm → (∀ y, y ≠ x1 → mm y = if y = x0 then some v else m' y) → H'.PlainList D0 ys' → Items H' D0 (picked2 i n1 f ++ picked (n1 i) (fun _ => true) (f i)) ys' → ys'.size ≤ ys.size + n1 i →
        R' (.ok .next) { s with heap := H', toks := tk' }) → codeAny (model prog w) A (.compLoop (lc2 elt i0 i1 x0 x1 p0 p1 scope pos) 1 (.ref I') (.ref D0) cenv) R' { s with heap := h₄, toks := t₃ } := fun R' hR' =>
      compLoop_in (h := hideAll h₃ [D0, cenv.locals]) g.way (items1 i) (f i) hx hp hDC hDfp' hCfp' (hideAll_none _ (.head _)) (hideAll_none _ (.tail _ (.head _)))
        (fun b hb => by cases q : (hideAll h₃ [D0, cenv.locals]).get? b with
          | none => rfl
          | some o => have := of_hideAll _ q; rw [g.fresh b hb] at this; cases this)
        (fun j u hj hP' HH eH => by
          have := g.item j u hj hP' h₃ (Ext.refl _)
          obtain ⟨z, hz⟩ := hints j
          rw [hz] at this ⊢; exact this) (fun j hj => hflat i j hlt hj)
        (fun j u HH mm hj eH nH hu hrest iu => body i j v u HH mm hlt hj (upE HH eH) nH (by rw [hrest x0 hx01]; simp) (hitem i v hlt hPv HH (upE HH eH)) hu iu)
        (fun b o q => g.ext b o (of_hideAll _ q)) g.st hpl₄ its₄ n₄ (by have := hn1 i hlt; omega) hR'
    obtain ⟨RR, hRR⟩ : ∃ RR : Result → Shared → Prop, RR = fun r s' => r = .ok .next ∧ ∃ m, m < n + 1 - i ∧ ∃ i H tk m' ys, s' = { s with heap := H, toks := tk } ∧ St i H ∧ Ext h H ∧ H.PlainList D0 ys ∧ H.Ns cenv.locals m' ∧ Items H D0 (picked2 i n1 f) ys ∧ i ≤ n ∧ ys.size ≤ 10 * i ∧ m = n + 1 - i := ⟨_, rfl⟩
    have fin : ∀ H' tk' mm ys', (∀ b o, b ≠ cenv.locals → b ≠ D0 → b ∉ wr' → h₄.get? b = some o → H'.get? b = some o) → H'.Ns cenv.locals mm → (∀ y, y ≠ x1 → mm y = if y = x0 then some v else m' y) → H'.PlainList D0 ys' → Items H' D0 (picked2 i n1 f ++ picked (n1 i) (fun _ => true) (f i)) ys' → ys'.size ≤ ys.size + n1 i →
        RR (.ok .next) { s with heap := H', toks := tk' } := by
      intro H' tk' mm ys' kp hmm hrest hpl' its' hys'
      rw [hRR]
      refine ⟨rfl, n + 1 - (i + 1), by omega, i + 1, H', tk', mm, ys', rfl, ?_, ?_, hpl', hmm, ?_, hlt, ?_, rfl⟩
      · refine W.walks.frame _ _ _ st₂ fun b hb o q => kp b o (fun z => hCf (z ▸ hb)) (fun z => hDf (z ▸ hb)) (fun z => ?_) (g.ext b o (k₃ b o q))
        have := k₃ b o q
        rw [g.fresh b z] at this; cases this
      · exact fun b o q => kp b o (fun z => by rw [z, hC] at q; cases q) (fun z => by rw [z, hD] at q; cases q) (fun z => by rw [fw b z] at q; cases q) (e₄ b o q)
      · rw [picked2_succ]; exact its'
      · have := hn1 i hlt; omega
    have whole := compStart_in (loop RR fin) (g.way.walks.self 0 _ _ _ g.st (loop RR fin))
    refine codeAny_mono whole fun r s' hr => ?_
    rw [hRR] at hr
    obtain ⟨rfl, hg⟩ := hr
    exact wpAny_pure ⟨rfl, hg⟩
  · have hin : i = n := by omega
    subst hin
    refine W.walks.done _ _ _ st fun h₁ tk₁ k₁ => ?_
    refine wpAny_pure (hR h₁ tk₁ m' ys (fun b o q => k₁ b o (fun hb => by rw [hw b hb] at q; cases q) (e b o q)) (hns.at' fun o q => k₁ _ o hCw q) ((way_l W st k₁).plain hpl) (its.l (way_l W st k₁)).all)

theorem compStart_out {elt i0 i1 : PySem.Expr} {x0 x1 : Str} {p0 p1 : Pos} {scope : Scope} {pos : Pos} {it acc : Value} {env : Env}
    (h0 : codeAny (model prog w) A (.compLoop (lc2 elt i0 i1 x0 x1 p0 p1 scope pos) 0 it acc env) R s)
    (h : wpAny (model prog w) A (pyIter it) (fun it' s' => codeAny (model prog w) A (.compLoop (lc2 elt i0 i1 x0 x1 p0 p1 scope pos) 0 it' acc env) R s')
      (notedBy (model prog w) A env fun x s' => R (.error x) s') s) :
    codeAny (model prog w) A (.compStart (lc2 elt i0 i1 x0 x1 p0 p1 scope pos) 0 it acc env) R s := codeAny_compStart_list h0 h

variable {h : Heap} {env : Env}
theorem ev_comp2 {elt i0 i1 : PySem.Expr} {x0 x1 : Str} {p0 p1 : Pos} {scope : Scope} {pos : Pos} {cl : List (Str × Addr)} {d : D} {n : Nat} {items : Nat → D} (d1 : Nat → D) (n1 : Nat → Nat) (items1 : Nat → Nat → D) (f : Nat → Nat → D)
    (hh : A.handled = none) (src0 : Ev prog w A h (eval i0 env) (Is d)) (hsrc0 : Src d n items) (hsz : n ≤ 90) (hflat : ∀ i j, i < n → j < n1 i → Flat (f i j))
    (hsrc : ∀ i, i < n → Src (d1 i) (n1 i) (items1 i)) (hrange : ∀ i, i < n → ∃ a b c, d1 i = .range a b c) (hn1 : ∀ i, i < n → n1 i ≤ 10)
    (hclos : closureFor scope env = pure cl) (hcell : ∀ y ∈ scope.names, y.2 ≠ .cell) (hkind : scope.kind = .function)
    (hnames : ∀ y ∈ scope.names, y.2 = .local → scope.names.lookup y.1 = some .local) (hx0 : scope.names.lookup x0 = some .local) (hx : scope.names.lookup x1 = some .local) (hx01 : x0 ≠ x1)
    (src : ∀ C i v H m', i < n → Ext h H → H.Ns C m' → m' x0 = some v → Is (items i) v H → Ev prog w A H (eval i1 (compEnvC scope cl C env)) (Is (d1 i)))
    (body : ∀ C i j v u H m', i < n → j < n1 i → Ext h H → H.Ns C m' → m' x0 = some v → Is (items i) v H → m' x1 = some u → Is (items1 i j) u H → EvF prog w A H (eval elt (compEnvC scope cl C env)) (f i j))
    (hs0 : ∀ x, foldedSetIterable i0 env x = pure x := by intro _; rfl)
    (hs : ∀ C x, foldedSetIterable i1 (compEnvC scope cl C env) x = pure x := by intro _ _; rfl) :
    Ev prog w A h (eval (lc2 elt i0 i1 x0 x1 p0 p1 scope pos) env) fun v H => ∃ a ys, v = .ref a ∧ H.PlainList a ys ∧ IsAll H (picked2 n n1 f) ys.toList := by
  refine Ev.of fun s Q e q => ?_
  rw [eval_ListComp]
  refine wpAny_comprehension_free (use := none) rfl hs0 hclos hkind hnames (src0.use e fun xv h₁ t₁ k₁ p₁ => iter_way (s := { s with heap := h₁, toks := t₁ }) hh hsrc0 p₁ fun I fp wr P St h₂ g => ?_)
  refine wpAny_newObj_type (wpAny_newFunctionEnv hcell (by intro y hy; simp at hy) (fun h₃ hns hsb => ?_) hkind)
  dsimp only at hns hsb ⊢
  generalize hH2 : h₂.push { cls := .type "list", dict := none, data := .seq ([] : List Value).toArray } = H2 at hns hsb ⊢
  have hC : H2.objs.size = h₂.objs.size + 1 := by rw [← hH2, Heap.size_push]
  have old : ∀ b o, h₂.get? b = some o → h₃.get? b = some o := fun b o z => hsb.extBut b o (by rw [hC]; exact Nat.ne_of_lt (Nat.lt_succ_of_lt (Heap.lt_size z))) (Heap.get?_push_of_some _ (hH2 ▸ Heap.get?_push_of_some _ z))
  have hDC : h₂.objs.size ≠ H2.objs.size := by rw [hC]; exact Nat.ne_of_lt (Nat.lt_succ_self _)
  have hacc : h₃.PlainList h₂.objs.size #[] := ⟨_, hsb.extBut _ _ hDC (Heap.get?_push_of_some _ (hH2 ▸ Heap.get?_push_size _ rfl))⟩
  have hst₃ : St 0 h₃ := g.way.walks.frame _ _ _ g.st fun b _ o z => old b o z
  have new : ∀ a, h₂.objs.size ≤ a → h₁.get? a = none := fun a ha => by
    cases z : h₁.get? a with
    | none => rfl
    | some o => exact absurd (Heap.lt_size (g.ext a o z)) (Nat.not_lt.mpr ha)
  have loop : ∀ s₃ : Shared, s₃ = { s with heap := h₃, toks := t₁ + ([] : List (Str × Value)).length } →
      codeAny (model prog w) A (.compLoop (lc2 elt i0 i1 x0 x1 p0 p1 scope pos) 0 (.ref I) (.ref h₂.objs.size) (compEnvC scope cl H2.objs.size env))
        (compPost (model prog w) A (fun _ _ => False) none Q (.ref h₂.objs.size) H2.objs.size) s₃ := by
    rintro s₃ rfl
    refine compLoop_out (h := h₁) (cenv := compEnvC scope cl H2.objs.size env) hh g.way items d1 n1 items1 f (lookup_relabel_local hx0) (lookup_relabel_local hx) hx01 (by simp [compEnvC, relabel, hkind]) hDC
      (fun z => absurd (g.low _ z) (Nat.lt_irrefl _)) (fun z => absurd (g.low _ z) (by show ¬ H2.objs.size < _; rw [hC]; omega)) (new _ (Nat.le_refl _)) (new _ (by show _ ≤ H2.objs.size; rw [hC]; exact Nat.le_succ _)) g.fresh g.item hflat hsrc hrange hn1
      (fun i v H m hi eH hm hv hI => src H2.objs.size i v H m hi ((e.trans k₁).trans eH) hm hv hI)
      (fun i j v u H m hi hj eH hm hv hI hu hJ => body H2.objs.size i j v u H m hi hj ((e.trans k₁).trans eH) hm hv hI hu hJ)
      (fun b o z => old b o (g.ext b o z)) hst₃ hacc hns hsz (fun H tk m' ys eH hm' hpl hall => ?_) (hs _)
    refine ⟨m', hm', fun h' hs' => q _ h' tk (fun b o z => hs'.extBut b o (fun y => ?_) (eH b o (k₁ b o z))) ⟨_, ys, rfl, ?_, ?_⟩⟩
    · have := k₁ b o z
      rw [y, new _ (by show _ ≤ H2.objs.size; rw [hC]; exact Nat.le_succ _)] at this; cases this
    · exact (LExt.ofNs hm' hs').plain hpl
    · exact hall.l (LExt.ofNs hm' hs')
  exact compStart_out (loop _ rfl) (g.way.walks.self 0 _ _ _ hst₃ (loop _ rfl))
theorem picked2_zss {h : Heap} {v : Value} {n : Nat} {n1 : Nat → Nat} {g : Nat → Nat → List Int} (x : ∃ a ys, v = .ref a ∧ h.PlainList a ys ∧ IsAll h (picked2 n n1 fun i j => .zs (g i j)) ys.toList) : Is (.zss ((List.range n).flatMap fun i => (List.range (n1 i)).map (g i))) v h := by
  obtain ⟨a, ys, rfl, hp, hall⟩ := x
  refine ⟨a, ys.toList, rfl, ?_, paired_of_all (h := h) ?_⟩
  · simpa using plain_isList hp
  · have : picked2 n n1 (fun i j => .zs (g i j)) = ((List.range n).flatMap fun i => (List.range (n1 i)).map (g i)).map .zs := by
      unfold picked2 picked
      rw [List.map_flatMap]
      congr 1
      funext i
      rw [List.map_map, List.filter_eq_self.mpr (by simp)]
      rfl
    rw [← this]; exact hall
end
end Mine
end

section -- St
open PySem PySem.W PyProof.Rows PySem.Calls
set_option Elab.async false
set_option maxRecDepth 100000
set_option maxHeartbeats 2000000
set_option linter.unusedVariables false
namespace Mine

def Mut (env : Env) (ms : List Addr) (a : Addr) : Prop := a = env.locals ∨ (∃ n, env.cells.lookup n = some a) ∨ a ∈ ms
def Chg (env : Env) (ms : List Addr) (h h' : Heap) : Prop := ∀ a o, ¬ Mut env ms a → h.get? a = some o → h'.get? a = some o
theorem Chg.refl (env : Env) (ms : List Addr) (h : Heap) : Chg env ms h h := fun _ _ _ e => e
theorem Chg.trans {env : Env} {ms : List Addr} {h h' h'' : Heap} (x : Chg env ms h h') (y : Chg env ms h' h'') : Chg env ms h h'' := fun a o n e => y a o n (x a o n e)
theorem Ext.chg {env : Env} {ms : List Addr} {h h' : Heap} (x : Ext h h') : Chg env ms h h' := fun a o _ e => x a o e

structure Fm (b : Heap) (env : Env) (ms : List Addr) (h : Heap) : Prop where
  keep : Ext b h
  off : ∀ a, Mut env ms a → b.get? a = none
  kind : env.scope.kind = .function
  ns : ∃ m, h.Ns env.locals m
  cell : ∀ n c, env.cells.lookup n = some c → ∃ v, h.IsCell c v
  apart : ∀ n n' c, env.cells.lookup n = some c → env.cells.lookup n' = some c → n = n'
  glob : ∃ mg, b.Ns env.globals mg
  bult : ∃ mb, b.Ns env.builtins mb
  lists : ∀ a ∈ ms, ∃ xs, h.PlainList a xs

def VarsB (env : Env) (b h : Heap) (ρ : Rho) : Prop := ∀ x d, ρ.lookup x = some d → ∃ v, Res env h x v ∧ Is d v b
theorem VarsB.vars {env : Env} {b h : Heap} {ρ : Rho} {ms : List Addr} (V : VarsB env b h ρ) (F : Fm b env ms h) : Vars env h ρ :=
  ⟨F.kind, fun x d l => let ⟨v, r, i⟩ := V x d l; ⟨v, r, i.l F.keep.l⟩⟩
theorem VarsB.up {env : Env} {b h h' : Heap} {ρ : Rho} (V : VarsB env b h ρ) (e : Ext h h') : VarsB env b h' ρ := fun x d l => let ⟨v, r, i⟩ := V x d l; ⟨v, r.up e, i⟩
theorem VarsB.sub {env : Env} {b h : Heap} {ρ ρ' : Rho} (V : VarsB env b h ρ) (k : ∀ p ∈ ρ', ρ.lookup p.1 = some p.2) : VarsB env b h ρ' := fun x d l => V x d (k (x, d) (mem_of_lookup l))

section
variable {b h h' : Heap} {env : Env} {ms : List Addr} {ρ : Rho}
theorem Fm.up (F : Fm b env ms h) (e : Ext h h') : Fm b env ms h' where
  keep := F.keep.trans e
  off := F.off
  kind := F.kind
  ns := let ⟨m, n⟩ := F.ns; ⟨m, n.keeps e⟩
  cell := fun n c l => let ⟨v, i⟩ := F.cell n c l; ⟨v, i.keeps e⟩
  apart := F.apart
  glob := F.glob
  bult := F.bult
  lists := fun a ha => let ⟨xs, p⟩ := F.lists a ha; ⟨xs, e.l.plain p⟩

theorem ns_ne_cell {a c : Addr} {m : Str → Option Value} {v : Option Value} (n : h.Ns a m) (i : h.IsCell c v) : c ≠ a := by
  rintro rfl
  obtain ⟨o, es, ep, ho, hd, _⟩ := n
  obtain ⟨o', ho', hd'⟩ := i
  rw [ho] at ho'; cases ho'; rw [hd] at hd'; cases hd'
theorem ns_ne_list {a c : Addr} {m : Str → Option Value} {xs : Array Value} (n : h.Ns a m) (i : h.PlainList c xs) : c ≠ a := by
  rintro rfl
  obtain ⟨o, es, ep, ho, hd, _⟩ := n
  obtain ⟨k, ho'⟩ := i
  rw [ho] at ho'; cases ho'; cases hd
theorem cell_ne_list {a c : Addr} {v : Option Value} {xs : Array Value} (n : h.IsCell a v) (i : h.PlainList c xs) : c ≠ a := by
  rintro rfl
  obtain ⟨o, ho, hd⟩ := n
  obtain ⟨k, ho'⟩ := i
  rw [ho] at ho'; cases ho'; cases hd
theorem Fm.glob_ne (F : Fm b env ms h) {a : Addr} (ha : Mut env ms a) : env.globals ≠ a ∧ env.builtins ≠ a := by
  have := F.off a ha
  obtain ⟨mg, o, _, _, ho, _⟩ := F.glob
  obtain ⟨mb, o', _, _, ho', _⟩ := F.bult
  exact ⟨fun e => (by rw [e, this] at ho; cases ho), fun e => (by rw [e, this] at ho'; cases ho')⟩

/-- a change at one place of the frame's own -/
theorem Fm.put (F : Fm b env ms h) {a : Addr} (ha : Mut env ms a) (hs : Heap.SameBut a h h') (hn : ∃ m, h'.Ns env.locals m) (hc : ∀ n c, env.cells.lookup n = some c → ∃ v, h'.IsCell c v)
    (hl : ∀ a ∈ ms, ∃ xs, h'.PlainList a xs) : Fm b env ms h' where
  keep := fun x o e => hs.extBut x o (fun q => by rw [q, F.off a ha] at e; cases e) (F.keep x o e)
  off := F.off
  kind := F.kind
  ns := hn
  cell := hc
  apart := F.apart
  glob := F.glob
  bult := F.bult
  lists := hl

theorem Fm.putL (F : Fm b env ms h) {m : Str → Option Value} (hn₀ : h.Ns env.locals m) {m' : Str → Option Value} (hn : h'.Ns env.locals m') (hs : Heap.SameBut env.locals h h') : Fm b env ms h' :=
  F.put (.inl rfl) hs ⟨_, hn⟩ (fun n c l => let ⟨v, i⟩ := F.cell n c l; ⟨v, i.sameBut hs (ns_ne_cell hn₀ i)⟩) fun a ha => let ⟨xs, p⟩ := F.lists a ha; ⟨xs, (LExt.ofNs hn₀ hs).plain p⟩
theorem Fm.putC (F : Fm b env ms h) {x : Str} {c : Addr} {v v' : Option Value} (l : env.cells.lookup x = some c) (i₀ : h.IsCell c v) (i : h'.IsCell c v') (hs : Heap.SameBut c h h') : Fm b env ms h' := by
  refine F.put (.inr (.inl ⟨x, l⟩)) hs ?_ (fun n c' l' => ?_) fun a ha => let ⟨xs, p⟩ := F.lists a ha; ⟨xs, (LExt.ofCell i₀ hs).plain p⟩
  · obtain ⟨m, n⟩ := F.ns; exact ⟨m, n.sameBut hs (Ne.symm (ns_ne_cell n i₀))⟩
  · by_cases e : c' = c
    · subst e; exact ⟨_, i⟩
    · obtain ⟨v, q⟩ := F.cell n c' l'; exact ⟨v, q.sameBut hs e⟩
theorem Fm.putA (F : Fm b env ms h) {a : Addr} {xs xs' : Array Value} (ha : a ∈ ms) (p₀ : h.PlainList a xs) (p : h'.PlainList a xs') (hs : Heap.SameBut a h h') : Fm b env ms h' := by
  refine F.put (.inr (.inr ha)) hs ?_ (fun n c' l' => ?_) fun a' ha' => ?_
  · obtain ⟨m, n⟩ := F.ns; exact ⟨m, n.sameBut hs (Ne.symm (ns_ne_list n p₀))⟩
  · obtain ⟨v, q⟩ := F.cell n c' l'; exact ⟨v, q.sameBut hs (Ne.symm (cell_ne_list q p₀))⟩
  · by_cases e : a' = a
    · subst e; exact ⟨_, p⟩
    · obtain ⟨ys, k, q⟩ := F.lists a' ha'; exact ⟨ys, k, hs.extBut _ _ e q⟩

theorem ns_unique {a : Addr} {m m' : Str → Option Value} (x : h.Ns a m) (y : h.Ns a m') : m = m' := by
  obtain ⟨o, es, ep, ho, hd, _, hf⟩ := x
  obtain ⟨o', es', ep', ho', hd', _, hf'⟩ := y
  rw [ho] at ho'; cases ho'; rw [hd] at hd'; cases hd'
  funext z; rw [← hf z, ← hf' z]

/-- names behind a store -/
theorem res_putL (F : Fm b env ms h) {m : Str → Option Value} (hn₀ : h.Ns env.locals m) {x : Str} {v : Value} (hn : h'.Ns env.locals fun y => if y = x then some v else m y) (hs : Heap.SameBut env.locals h h') {y : Str} {u : Value} (hy : y ≠ x) (r : Res env h y u) : Res env h' y u := by
  rcases r with ⟨k, m₁, n, q⟩ | ⟨k, c, l, q⟩ | ⟨k, mg, n, q⟩
  · have := ns_unique n hn₀; subst this
    exact .inl ⟨k, _, hn, by simp [hy, q]⟩
  · exact .inr (.inl ⟨k, c, l, q.sameBut hs (ns_ne_cell hn₀ q)⟩)
  · obtain ⟨g1, g2⟩ := F.glob_ne (a := env.locals) (.inl rfl)
    exact .inr (.inr ⟨k, mg, n.sameBut hs g1, q.imp id fun ⟨a, mb, b, c⟩ => ⟨a, mb, b.sameBut hs g2, c⟩⟩)
theorem res_putC (F : Fm b env ms h) {x : Str} {c : Addr} {v : Option Value} {v' : Value} (hk : env.kindOf x = some .cell) (l : env.cells.lookup x = some c) (i₀ : h.IsCell c v) (i : h'.IsCell c (some v')) (hs : Heap.SameBut c h h') {y : Str} {u : Value} (hy : y ≠ x) (r : Res env h y u) : Res env h' y u := by
  rcases r with ⟨k, m₁, n, q⟩ | ⟨k, c', l', q⟩ | ⟨k, mg, n, q⟩
  · exact .inl ⟨k, _, n.sameBut hs (Ne.symm (ns_ne_cell n i₀)), q⟩
  · by_cases e : c' = c
    · subst e; exact absurd (F.apart _ _ _ l' l) hy
    · exact .inr (.inl ⟨k, c', l', q.sameBut hs e⟩)
  · obtain ⟨g1, g2⟩ := F.glob_ne (a := c) (.inr (.inl ⟨x, l⟩))
    exact .inr (.inr ⟨k, mg, n.sameBut hs g1, q.imp id fun ⟨a, mb, b, c⟩ => ⟨a, mb, b.sameBut hs g2, c⟩⟩)
theorem res_putA (F : Fm b env ms h) {a : Addr} {xs : Array Value} (ha : a ∈ ms) (p₀ : h.PlainList a xs) (hs : Heap.SameBut a h h') {y : Str} {u : Value} (r : Res env h y u) : Res env h' y u := by
  rcases r with ⟨k, m₁, n, q⟩ | ⟨k, c', l', q⟩ | ⟨k, mg, n, q⟩
  · exact .inl ⟨k, _, n.sameBut hs (Ne.symm (ns_ne_list n p₀)), q⟩
  · exact .inr (.inl ⟨k, c', l', q.sameBut hs (Ne.symm (cell_ne_list q p₀))⟩)
  · obtain ⟨g1, g2⟩ := F.glob_ne (a := a) (.inr (.inr ha))
    exact .inr (.inr ⟨k, mg, n.sameBut hs g1, q.imp id fun ⟨a, mb, b, c⟩ => ⟨a, mb, b.sameBut hs g2, c⟩⟩)

theorem chg_of (ha : Mut env ms a) (hs : Heap.SameBut a h h') : Chg env ms h h' := fun x o n e => hs.extBut x o (fun q => n (q ▸ ha)) e
end

def Storable (env : Env) (x : Str) : Prop := env.kindOf x = some .local ∨ (env.kindOf x = some .cell ∧ ∃ c, env.cells.lookup x = some c)

section
variable {prog : Program} {w : World} {A : Around} {s : Shared} {E : Value → Shared → Prop} {b : Heap} {env : Env} {ms : List Addr}
/-- a store -/
theorem store_any {x : Str} {v : Value} {Q : Unit → Shared → Prop} (F : Fm b env ms s.heap) (hx : Storable env x)
    (k : ∀ h' tk, Fm b env ms h' → Res env h' x v → (∀ y u, y ≠ x → Res env s.heap y u → Res env h' y u) → LExt s.heap h' → Chg env ms s.heap h' → Q () { s with heap := h', toks := tk }) :
    wpAny (model prog w) A (storeName env x v) Q E s := by
  rcases hx with hx | ⟨hx, c, hc⟩
  · obtain ⟨m, hn⟩ := F.ns
    refine wpAny_storeName_local hx hn (fun h' hn' hs => ?_) (by rw [F.kind]; rfl)
    exact k h' _ (F.putL hn hn' hs) (.inl ⟨hx, _, hn', by simp⟩) (fun y u hy r => res_putL F hn hn' hs hy r) (LExt.ofNs hn hs) (chg_of (.inl rfl) hs)
  · obtain ⟨v₀, hi⟩ := F.cell x c hc
    refine wpAny_storeName_cell F.kind hx hc hi fun h' hi' hs => ?_
    exact k h' s.toks (F.putC hc hi hi' hs) (.inr (.inl ⟨.inl hx, c, hc, hi'⟩)) (fun y u hy r => res_putC F hx hc hi hi' hs hy r) (LExt.ofCell hi hs) (chg_of (.inr (.inl ⟨x, hc⟩)) hs)

theorem lookup_cons_ne {ρ : Rho} {x y : Str} {d d' : D} (l : ((x, d) :: ρ).lookup y = some d') : (y = x ∧ d' = d) ∨ (y ≠ x ∧ ρ.lookup y = some d') := by
  rw [List.lookup_cons] at l
  by_cases e : y = x
  · subst e; rw [beq_self_eq_true] at l; cases l; exact .inl ⟨rfl, rfl⟩
  · rw [beq_eq_false_iff_ne.mpr e] at l; exact .inr ⟨e, l⟩

theorem VarsB.put {b h h' : Heap} {ρ : Rho} {x : Str} {v : Value} {d : D} (V : VarsB env b h ρ) (r : Res env h' x v) (i : Is d v b) (o : ∀ y u, y ≠ x → Res env h y u → Res env h' y u) : VarsB env b h' ((x, d) :: ρ) := by
  intro y d' l
  rcases lookup_cons_ne l with ⟨rfl, rfl⟩ | ⟨hy, l⟩
  · exact ⟨v, r, i⟩
  · obtain ⟨u, ru, iu⟩ := V y d' l
    exact ⟨u, o y u hy ru, iu⟩
theorem Vars.put {h h' : Heap} {ρ : Rho} {x : Str} {v : Value} {d : D} (V : Vars env h ρ) (r : Res env h' x v) (i : Is d v h') (o : ∀ y u, y ≠ x → Res env h y u → Res env h' y u) (e : LExt h h') : Vars env h' ((x, d) :: ρ) := by
  refine ⟨V.1, fun y d' l => ?_⟩
  rcases lookup_cons_ne l with ⟨rfl, rfl⟩ | ⟨hy, l⟩
  · exact ⟨v, r, i⟩
  · obtain ⟨u, ru, iu⟩ := V.2 y d' l
    exact ⟨u, o y u hy ru, iu.l e⟩

def Scalar : D → Prop
  | .val _ | .bool _ | .int _ => True
  | _ => False
theorem Is.scalar {d : D} {v : Value} {h h' : Heap} (c : Scalar d) (i : Is d v h) : Is d v h' := by
  cases d with
  | val _ => exact i
  | bool _ => exact i
  | int _ => exact i
  | zs _ => exact c.elim
  | zss _ => exact c.elim
  | range _ _ _ => exact c.elim

variable {Q : Flow → Shared → Prop} {ρ : Rho} {rest : List Stmt}
/-- x = e: a scalar; the base stays -/
theorem st_assignS {x : Str} {px pos : Pos} {value : PySem.Expr} {d : D} (F : Fm b env ms s.heap) (V : VarsB env b s.heap ρ) (hx : Storable env x) (hd : Scalar d) (e : Ev prog w A s.heap (eval value env) (Is d))
    (hs : swapsWith value (some (.Name x px)) pos.line env = pure false)
    (k : ∀ h' tk, Fm b env ms h' → VarsB env b h' ((x, d) :: ρ) → LExt s.heap h' → Chg env ms s.heap h' → wpAny (model prog w) A (execs rest env) Q E { s with heap := h', toks := tk }) :
    wpAny (model prog w) A (execs (.Assign [.Name x px] value pos :: rest) env) Q E s :=
  wpAny_execs_cons (wpAny_Assign_Name (e.use (Ext.refl _) fun v h₁ t₁ k₁ p₁ => store_any (s := { s with heap := h₁, toks := t₁ }) (F.up k₁) hx fun h' tk F' r o l c =>
    k h' tk F' ((V.up k₁).put r (p₁.scalar hd) o) (k₁.l.trans l) (k₁.chg.trans c)) hs)
/-- x = e: anything; the heap itself is the base of the data -/
theorem st_assign {x : Str} {px pos : Pos} {value : PySem.Expr} {d : D} (F : Fm b env ms s.heap) (V : Vars env s.heap ρ) (hx : Storable env x) (e : Ev prog w A s.heap (eval value env) (Is d))
    (hs : swapsWith value (some (.Name x px)) pos.line env = pure false)
    (k : ∀ h' tk, Fm b env ms h' → Vars env h' ((x, d) :: ρ) → LExt s.heap h' → Chg env ms s.heap h' → wpAny (model prog w) A (execs rest env) Q E { s with heap := h', toks := tk }) :
    wpAny (model prog w) A (execs (.Assign [.Name x px] value pos :: rest) env) Q E s :=
  wpAny_execs_cons (wpAny_Assign_Name (e.use (Ext.refl _) fun v h₁ t₁ k₁ p₁ => store_any (s := { s with heap := h₁, toks := t₁ }) (F.up k₁) hx fun h' tk F' r o l c =>
    k h' tk F' ((V.up k₁).put r (p₁.l l) o l) (k₁.l.trans l) (k₁.chg.trans c)) hs)
/-- x = e, the value and its newness at hand -/
theorem st_assignF {x : Str} {px pos : Pos} {value : PySem.Expr} {d : D} (F : Fm b env ms s.heap) (V : VarsB env b s.heap ρ) (hx : Storable env x) (e : EvF prog w A s.heap (eval value env) d)
    (hs : swapsWith value (some (.Name x px)) pos.line env = pure false)
    (k : ∀ v h' tk, Fm b env ms h' → VarsB env b h' ((x, .val v) :: ρ) → Is d v h' → (∀ a, v = .ref a → s.heap.get? a = none) → LExt s.heap h' → Chg env ms s.heap h' → wpAny (model prog w) A (execs rest env) Q E { s with heap := h', toks := tk }) :
    wpAny (model prog w) A (execs (.Assign [.Name x px] value pos :: rest) env) Q E s :=
  wpAny_execs_cons (wpAny_Assign_Name (e.use (Ext.refl _) fun v h₁ t₁ k₁ p₁ f₁ => store_any (s := { s with heap := h₁, toks := t₁ }) (F.up k₁) hx fun h' tk F' r o l c =>
    k v h' tk F' ((V.up k₁).put r rfl o) (p₁.l l) f₁ (k₁.l.trans l) (k₁.chg.trans c)) hs)
/-- if -/
theorem st_if {test : PySem.Expr} {body orelse : List Stmt} {pos : Pos} {β : Bool} (t : Te prog w A env s.heap test β)
    (y : β = true → ∀ h' tk, Ext s.heap h' → wpAny (model prog w) A (execs body env) (fun f s' => match f with | .next => wpAny (model prog w) A (execs rest env) Q E s' | f => Q f s') E { s with heap := h', toks := tk })
    (z : β = false → ∀ h' tk, Ext s.heap h' → wpAny (model prog w) A (execs orelse env) (fun f s' => match f with | .next => wpAny (model prog w) A (execs rest env) Q E s' | f => Q f s') E { s with heap := h', toks := tk }) :
    wpAny (model prog w) A (execs (.If test body orelse pos :: rest) env) Q E s :=
  wpAny_execs_cons (wpAny_If (t.use (Ext.refl _) fun c h₁ t₁ k₁ p₁ => by
    subst p₁
    cases c with
    | true => exact y rfl h₁ t₁ k₁
    | false => exact z rfl h₁ t₁ k₁))
theorem st_ret {value : PySem.Expr} {pos : Pos} {P : Value → Heap → Prop} (e : Ev prog w A s.heap (eval value env) P)
    (k : ∀ v h' tk, Ext s.heap h' → P v h' → Q (.ret v) { s with heap := h', toks := tk }) :
    wpAny (model prog w) A (execs (.Return (some value) pos :: rest) env) Q E s :=
  wpAny_execs_cons (wpAny_Return_some (e.use (Ext.refl _) k))
/-- l.append(e) -/
theorem st_append {l : Str} {pl apos pos spos : Pos} {elt : PySem.Expr} {a : Addr} {ys : Array Value} {P : Value → Heap → Prop} (F : Fm b env ms s.heap) (V : VarsB env b s.heap ρ) (hl : ρ.lookup l = some (.val (.ref a))) (ha : a ∈ ms) (hp : s.heap.PlainList a ys) (hsz : ys.size ≤ 1000)
    (e : Ev prog w A s.heap (eval elt env) P)
    (k : ∀ v h₁ h' tk, Ext s.heap h₁ → P v h₁ → Heap.SameBut a h₁ h' → h'.PlainList a (ys.push v) → Fm b env ms h' → VarsB env b h' ρ → Chg env ms s.heap h' → wpAny (model prog w) A (execs rest env) Q E { s with heap := h', toks := tk })
    (hd : (l == ("__debug__" : Str)) = false) (hn : (l == ("__classdict__" : Str)) = false)
    (hbase : attributeBase (.Name l pl) (Str.ofString "append") env (eval (.Name l pl) env) = eval (.Name l pl) env)
    (hfew : (((List.all (backTo pos (starEach [elt] env)) fun x => !Prod.fst x) && List.all (backToKw pos (keywordEach [] env)) fun x => Option.isSome (Prod.fst x)) &&
          decide ((List.length [elt] + List.length ([] : List Keyword) + if List.isEmpty ([] : List Keyword) = true then 0 else 1) < 30)) = true)
    (hline : (Pos.endLine apos == Pos.line pos) = true) (htrees : backTo pos (starEach [elt] env) = [(false, eval elt env)])
    (hi : interactive env = false) (hs : swapsWith (.Call (.Attribute (.Name l pl) (Str.ofString "append") apos) [elt] [] pos) none spos.line env = pure false) :
    wpAny (model prog w) A (execs (.Expr (.Call (.Attribute (.Name l pl) (Str.ofString "append") apos) [elt] [] pos) spos :: rest) env) Q E s := by
  refine wpAny_execs_cons (wpAny_Expr (wpAny_Call_append hbase hfew hline htrees ?_) hi hs)
  obtain ⟨u, r, i⟩ := V l _ hl
  have i : u = .ref a := i
  subst i
  refine (ev_res (prog := prog) (w := w) (A := A) F.kind r hd hn).use (Ext.refl _) fun u h₁ t₁ k₁ p₁ => ?_
  subst p₁
  obtain ⟨n, ho⟩ := k₁.l.plain hp
  refine ⟨a, ys, rfl, ⟨_, n, ho, rfl, rfl, rfl⟩, e.use k₁ fun v h₂ t₂ k₂ p₂ => ?_⟩
  have hp₂ := (k₁.trans k₂).l.plain hp
  refine wpAny_list_append_plain (s := { s with heap := h₂, toks := t₂ }) hp₂ (fun h₃ hl₃ hs₃ => ?_) (by rw [sizeLine_eq]; omega)
  exact k v h₂ h₃ t₂ (k₁.trans k₂) p₂ hs₃ hl₃ ((F.up (k₁.trans k₂)).putA ha hp₂ hl₃ hs₃) (fun x d l => by
    obtain ⟨u, r, i⟩ := V x d l
    exact ⟨u, res_putA (F.up (k₁.trans k₂)) ha hp₂ hs₃ (r.up (k₁.trans k₂)), i⟩) ((k₁.trans k₂).chg.trans (chg_of (.inr (.inr ha)) hs₃))
end
end Mine
end

section -- Lo
open PySem PySem.W PyProof.Rows PySem.Calls
set_option Elab.async false
set_option maxRecDepth 100000
set_option maxHeartbeats 2000000
set_option linter.unusedVariables false
namespace Mine

section
variable {b h h' : Heap} {env : Env} {ms : List Addr} {ρ : Rho}
theorem Fm.step (F : Fm b env ms h) (k : ∀ a o, (Mut env ms a ∨ ∃ o', b.get? a = some o') → h.get? a = some o → h'.get? a = some o) : Fm b env ms h' where
  keep := fun a o e => k a o (.inr ⟨o, e⟩) (F.keep a o e)
  off := F.off
  kind := F.kind
  ns := let ⟨m, o, es, ep, ho, r⟩ := F.ns; ⟨m, o, es, ep, k _ _ (.inl (.inl rfl)) ho, r⟩
  cell := fun n c l => let ⟨v, o, ho, r⟩ := F.cell n c l; ⟨v, o, k _ _ (.inl (.inr (.inl ⟨n, l⟩))) ho, r⟩
  apart := F.apart
  glob := F.glob
  bult := F.bult
  lists := fun a ha => let ⟨xs, n, ho⟩ := F.lists a ha; ⟨xs, n, k _ _ (.inl (.inr (.inr ha))) ho⟩
theorem res_step (F : Fm b env ms h) (k : ∀ a o, (Mut env ms a ∨ ∃ o', b.get? a = some o') → h.get? a = some o → h'.get? a = some o) {y : Str} {u : Value} (r : Res env h y u) : Res env h' y u := by
  have hg : ∃ o', b.get? env.globals = some o' := let ⟨_, o, _, _, ho, _⟩ := F.glob; ⟨o, ho⟩
  have hb : ∃ o', b.get? env.builtins = some o' := let ⟨_, o, _, _, ho, _⟩ := F.bult; ⟨o, ho⟩
  rcases r with ⟨kk, m, ⟨o, es, ep, ho, z⟩, q⟩ | ⟨kk, c, l, ⟨o, ho, z⟩⟩ | ⟨kk, mg, ⟨o, es, ep, ho, z⟩, q⟩
  · exact .inl ⟨kk, m, ⟨o, es, ep, k _ _ (.inl (.inl rfl)) ho, z⟩, q⟩
  · exact .inr (.inl ⟨kk, c, l, ⟨o, k _ _ (.inl (.inr (.inl ⟨_, l⟩))) ho, z⟩⟩)
  · refine .inr (.inr ⟨kk, mg, ⟨o, es, ep, k _ _ (.inr hg) ho, z⟩, q.imp id fun ⟨a, mb, ⟨o, es, ep, ho, z⟩, c⟩ => ⟨a, mb, ⟨o, es, ep, k _ _ (.inr hb) ho, z⟩, c⟩⟩)
end

section
variable {prog : Program} {w : World} {A : Around} {s : Shared} {E : Value → Shared → Prop} {b : Heap} {env : Env} {ms : List Addr} {Q : Flow → Shared → Prop} {rest : List Stmt}

theorem runs_next {f : Flow} {s' : Shared} (hf : f = .next) (h : wpAny (model prog w) A (execs rest env) Q E s') : (match f with | .next => wpAny (model prog w) A (execs rest env) Q E s' | f => Q f s') := by subst hf; exact h

theorem st_for {x : Str} {px pos : Pos} {iter : PySem.Expr} {body : List Stmt} {d : D} {n : Nat} {items : Nat → D} (ρ : Nat → Rho) (X : Nat → Heap → Prop)
    (hh : A.handled = none) (F : Fm b env ms s.heap) (V : VarsB env b s.heap (ρ 0)) (X0 : X 0 s.heap) (hX : ∀ i h h', X i h → LExt h h' → X i h')
    (hx : Storable env x) (hsc : ∀ i, i < n → Scalar (items i)) (hsrc : Src d n items)
    (src : Ev prog w A s.heap (eval iter env) fun v h => Is d v h ∧ ∀ a ∈ ms, v ≠ .ref a)
    (turn : ∀ i h tk E', i < n → Fm b env ms h → VarsB env b h ((x, items i) :: ρ i) → X i h →
      wpAny (model prog w) A (execs body env) (fun f s' => match f with
        | .next => ∃ h' tk', s' = { s with heap := h', toks := tk' } ∧ Fm b env ms h' ∧ VarsB env b h' (ρ (i + 1)) ∧ X (i + 1) h' ∧ Chg env ms h h'
        | _ => False) E' { s with heap := h, toks := tk })
    (done : ∀ h' tk, Fm b env ms h' → VarsB env b h' (ρ n) → X n h' → Chg env ms s.heap h' → wpAny (model prog w) A (execs rest env) Q E { s with heap := h', toks := tk })
    (hs : ∀ x, foldedSetIterable iter env x = pure x := by intro _; rfl) :
    wpAny (model prog w) A (execs (.For (.Name x px) iter body [] pos :: rest) env) Q E s := by
  refine wpAny_execs_cons (wpAny_For (src.use (Ext.refl _) fun xv h₁ t₁ k₁ p₁ => iter_way (s := { s with heap := h₁, toks := t₁ }) hh hsrc p₁.1 fun I fp wr P St h₂ g => ?_) hs)
  have hwr : ∀ a ∈ wr, ∀ o, h₁.get? a ≠ some o := fun a ha o e => by
    have := g.fresh a ha
    rw [show ({ s with heap := h₁, toks := t₁ } : Shared).heap = h₁ from rfl, e] at this; cases this
  have F₁ := F.up k₁
  have hmut : ∀ a, Mut env ms a → ∃ o, h₁.get? a = some o := fun a ha => by
    rcases ha with rfl | ⟨nm, l⟩ | ha
    · obtain ⟨m, o, _, _, ho, _⟩ := F₁.ns; exact ⟨o, ho⟩
    · obtain ⟨v, o, ho, _⟩ := F₁.cell nm a l; exact ⟨o, ho⟩
    · obtain ⟨xs, k, ho⟩ := F₁.lists a ha; exact ⟨_, ho⟩
  have hfp : ∀ a ∈ fp, ¬ Mut env ms a := fun a ha hm => by
    rcases g.own a ha with q | ⟨q, xs, hl⟩
    · obtain ⟨o, ho⟩ := hmut a hm
      rw [show ({ s with heap := h₁, toks := t₁ } : Shared).heap = h₁ from rfl, ho] at q; cases q
    · rcases hm with rfl | ⟨nm, l⟩ | hm
      · obtain ⟨m, hn⟩ := F₁.ns; exact g.live _ ha m hn
      · obtain ⟨v, o, ho, hd⟩ := F₁.cell nm a l
        obtain ⟨o', ho', _, k, hd'⟩ := hl
        rw [show ({ s with heap := h₁, toks := t₁ } : Shared).heap = h₁ from rfl, ho] at ho'; cases ho'
        rw [hd] at hd'; cases hd'
      · exact p₁.2 a hm q
  have hnw : ∀ a, (Mut env ms a ∨ ∃ o', b.get? a = some o') → a ∉ wr := fun a ha hw => by
    rcases ha with ha | ⟨o', ho'⟩
    · obtain ⟨o, ho⟩ := hmut a ha; exact hwr a hw o ho
    · exact hwr a hw o' (F₁.keep a o' ho')
  refine codeAny_forLoop
    (fun k s' => ∃ i H tk, s' = { s with heap := H, toks := tk } ∧ St i H ∧ Fm b env ms H ∧ VarsB env b H (ρ i) ∧ X i H ∧ (∀ a o, ¬ Mut env ms a → a ∉ wr → h₁.get? a = some o → H.get? a = some o) ∧ i ≤ n ∧ k = n + 1 - i) (fun k s' hI => ?_) (n + 1)
    ⟨0, h₂, t₁, rfl, g.st, F₁.up g.ext, (V.up k₁).up g.ext, hX _ _ _ X0 (k₁.trans g.ext).l, fun a o _ _ e => g.ext a o e, Nat.zero_le _, rfl⟩
  obtain ⟨i, H, tk, rfl, st, FH, VH, XH, kp, hi, rfl⟩ := hI
  by_cases hlt : i < n
  · refine g.way.walks.item i _ _ _ hlt st fun v h₃ tk₃ hPv st₃ k₃ => ?_
    have step : ∀ a o, (Mut env ms a ∨ ∃ o', b.get? a = some o') → H.get? a = some o → h₃.get? a = some o := fun a o ha e => k₃ a o (hnw a ha) e
    have F₃ := FH.step step
    refine wpAny_assign_Name (store_any (s := { s with heap := h₃, toks := tk₃ }) F₃ hx fun h₄ tk₄ F₄ r o l c => ?_)
    have V₃ : VarsB env b h₃ (ρ i) := fun y d' ly => let ⟨u, ru, iu⟩ := VH y d' ly; ⟨u, res_step FH step ru, iu⟩
    have iv : Is (items i) v b := (g.item i v hlt hPv h₁ (Ext.refl _)).scalar (hsc i hlt)
    refine wpAny_mono (turn i h₄ tk₄ _ hlt F₄ (V₃.put r iv o) (hX _ _ _ XH ((way_l g.way st k₃).trans l))) (fun f s' p => ?_) fun _ _ e => e
    cases f with
    | next =>
      obtain ⟨h₅, tk₅, rfl, F₅, V₅, X₅, c₅⟩ := p
      refine ⟨n + 1 - (i + 1), by omega, i + 1, h₅, tk₅, rfl, ?_, F₅, V₅, X₅, fun a o hm hw e => c₅ a o hm (c a o hm (k₃ a o hw (kp a o hm hw e))), hlt, rfl⟩
      exact g.way.walks.frame _ _ _ st₃ fun a ha o e => c₅ a o (hfp a ha) (c a o (hfp a ha) e)
    | brk => exact p.elim
    | cont => exact p.elim
    | ret v => exact p.elim
  · have hin : i = n := by omega
    subst hin
    refine g.way.walks.done _ _ _ st fun h₃ tk₃ k₃ => ?_
    have step : ∀ a o, (Mut env ms a ∨ ∃ o', b.get? a = some o') → H.get? a = some o → h₃.get? a = some o := fun a o ha e => k₃ a o (hnw a ha) e
    refine wpAny_execs_nil (s := { s with heap := h₃, toks := tk₃ }) (done h₃ tk₃ (FH.step step) (fun y d' ly => let ⟨u, ru, iu⟩ := VH y d' ly; ⟨u, res_step FH step ru, iu⟩) (hX _ _ _ XH (way_l g.way st k₃)) fun a o hm e => ?_)
    have := k₁ a o e
    exact k₃ a o (fun hw => hwr a hw o this) (kp a o hm (fun hw => hwr a hw o this) this)

theorem st_while {σ : Type} {test : PySem.Expr} {body : List Stmt} {pos : Pos} (Inv : σ → Prop) (μ : σ → Nat) (β : σ → Bool) (ρ : σ → Rho) (a₀ : σ)
    (F : Fm b env ms s.heap) (V : VarsB env b s.heap (ρ a₀)) (I₀ : Inv a₀)
    (test_ : ∀ a h, Inv a → Fm b env ms h → VarsB env b h (ρ a) → Te prog w A env h test (β a))
    (turn : ∀ a h tk E', Inv a → β a = true → Fm b env ms h → VarsB env b h (ρ a) →
      wpAny (model prog w) A (execs body env) (fun f s' => match f with
        | .next => ∃ a' h' tk', s' = { s with heap := h', toks := tk' } ∧ Inv a' ∧ μ a' < μ a ∧ Fm b env ms h' ∧ VarsB env b h' (ρ a') ∧ Chg env ms h h'
        | _ => False) E' { s with heap := h, toks := tk })
    (done : ∀ a h' tk, Inv a → β a = false → Fm b env ms h' → VarsB env b h' (ρ a) → Chg env ms s.heap h' → wpAny (model prog w) A (execs rest env) Q E { s with heap := h', toks := tk }) :
    wpAny (model prog w) A (execs (.While test body [] pos :: rest) env) Q E s := by
  refine wpAny_execs_cons (wpAny_While ?_)
  refine codeAny_whileLoop
    (fun k s' => ∃ a H tk, s' = { s with heap := H, toks := tk } ∧ Inv a ∧ Fm b env ms H ∧ VarsB env b H (ρ a) ∧ Chg env ms s.heap H ∧ k = μ a) (fun k s' hI => ?_) (μ a₀)
    ⟨a₀, s.heap, s.toks, rfl, I₀, F, V, Chg.refl _ _ _, rfl⟩
  obtain ⟨a, H, tk, rfl, I, FH, VH, cH, rfl⟩ := hI
  refine (test_ a H I FH VH).use (Ext.refl _) fun c h₁ t₁ k₁ p₁ => ?_
  subst p₁
  cases hb : β a with
  | true =>
    simp only [if_true]
    refine wpAny_mono (turn a h₁ t₁ _ I hb (FH.up k₁) (VH.up k₁)) (fun f s' p => ?_) fun _ _ e => e
    cases f with
    | next =>
      obtain ⟨a', h', tk', rfl, I', hμ, F', V', c'⟩ := p
      exact ⟨μ a', hμ, a', h', tk', rfl, I', F', V', cH.trans (k₁.chg.trans c'), rfl⟩
    | brk => exact p.elim
    | cont => exact p.elim
    | ret v => exact p.elim
  | false =>
    simp only [Bool.false_eq_true, if_false]
    exact wpAny_execs_nil (s := { s with heap := h₁, toks := t₁ }) (done a h₁ t₁ I hb (FH.up k₁) (VH.up k₁) (cH.trans k₁.chg))
end
end Mine
end

section -- Fn
open PySem PySem.W PyProof.Rows PySem.Calls
set_option Elab.async false
set_option maxRecDepth 100000
set_option maxHeartbeats 2000000
set_option linter.unusedVariables false
namespace Mine

def defAt (i : Nat) : Stmt := PySem.Challenge.pw_dj5001_01.main.body.getD i (.Pass ⟨0, 0, 0, 0⟩)
def dBody : Stmt → List Stmt
  | .FunctionDef _ _ b _ _ _ _ _ _ _ => b
  | _ => []
def dScope : Stmt → Scope
  | .FunctionDef _ _ _ _ _ _ s _ _ _ => s
  | _ => { kind := .function, names := [], isGenerator := false, isCoroutine := false }

/-- a frame of a def -/
abbrev EnvF (sc : Scope) (L : Addr) (cells : List (Str × Addr)) (q : Str) (f : Option Addr) (cd : Value) : Env :=
  { scope := sc, locals := L, globals := mainGlobals, cells := cells, qual := q, func := f, code := cd, frame := some L, builtins := builtinsNs }

/-- room for n calls, one in the other -/
structure Room (n : Nat) (A : Around) : Prop where
  hand : A.handled = none
  depth : A.depth + n < recursionLimit
  units : A.units + 3 * n + 64 < cLine
theorem Room.deeper {n : Nat} {A : Around} (r : Room (n + 1) A) (env : Env) : Room n (A.deeper env) :=
  ⟨r.hand, by have := r.depth; show A.depth + 1 + n < _; omega, by have := r.units; show A.units + 3 + 3 * n + 64 < _; omega⟩
theorem Room.less {n m : Nat} {A : Around} (r : Room n A) (h : m ≤ n) : Room m A := ⟨r.hand, by have := r.depth; omega, by have := r.units; omega⟩

/-- the globals and the recursion's line -/
structure Base (h : Heap) : Prop where
  nolimit : h.NoLimit
  g : ∃ mg, h.Ns mainGlobals mg
  b : ∃ mb, h.Ns builtinsNs mb
theorem Base.up {h h' : Heap} (x : Base h) (e : Ext h h') : Base h' := ⟨x.nolimit.keeps e, let ⟨m, n⟩ := x.g; ⟨m, n.keeps e⟩, let ⟨m, n⟩ := x.b; ⟨m, n.keeps e⟩⟩

/-- a def's object -/
structure FnAt (h : Heap) (f : Addr) (body : List Stmt) (scope : Scope) (k : Nat) (bind : List Value → List (Str × Value)) : Prop where
  at_ : ∃ o fd, h.get? f = some o ∧ o.data = .func fd ∧ h.CodeRec fd.code fd.qualname ∧ fd.body = .stmts body ∧ fd.scope = scope ∧ fd.globals = mainGlobals ∧ fd.builtins = builtinsNs ∧ fd.closure = [] ∧
    ∀ s : Shared, Ext h s.heap → ∀ vs : List Value, vs.length = k → BindsTo s fd ⟨vs, []⟩ (bind vs)
theorem FnAt.up {h h' : Heap} {f : Addr} {body : List Stmt} {scope : Scope} {k : Nat} {bind : List Value → List (Str × Value)} (x : FnAt h f body scope k bind) (e : Ext h h') : FnAt h' f body scope k bind :=
  let ⟨o, fd, a, b, c, d1, d2, d3, d4, d5, d6⟩ := x.at_
  ⟨o, fd, e _ _ a, b, c.keeps e, d1, d2, d3, d4, d5, fun s q vs l => d6 s (e.trans q) vs l⟩
theorem FnAt.callee {h : Heap} {f : Addr} {body : List Stmt} {scope : Scope} {k : Nat} {bind : List Value → List (Str × Value)} (x : FnAt h f body scope k bind) : Callee h (.ref f) :=
  let ⟨o, fd, a, b, _⟩ := x.at_
  .func f o fd a b

/-- what the body of a def must do -/
def Walk (prog : Program) (w : World) (A : Around) (b : Heap) (env : Env) (body : List Stmt) (s : Shared) (P : Value → Heap → Prop) : Prop :=
  ∀ E, wpAny (model prog w) A (execs body env) (fun fl s' => ∃ v h' tk, fl = .ret v ∧ s' = { s with heap := h', toks := tk } ∧ Ext b h' ∧ P v h') E s

section
variable {prog : Program} {w : World} {A : Around} {h : Heap}

theorem call_plain_ {f : Addr} {body : List Stmt} {scope : Scope} {k : Nat} {bind : List Value → List (Str × Value)} {vs : List Value} {P : Heap → Value → Heap → Prop} (B : Base h) (x : FnAt h f body scope k bind) (hk : vs.length = k) (hd : A.depth < recursionLimit)
    (hcell : ∀ y ∈ scope.names, y.2 ≠ .cell) (hloc : ∀ y ∈ bind vs, scope.names.lookup y.1 = some .local) (hco : scope.isCoroutine = false) (hgen : scope.isGenerator = false) (hkind : scope.kind = .function)
    (walk : ∀ (b : Heap) (s : Shared) (L : Addr) (q : Str) (fo : Option Addr) (cd : Value), Ext h b → s.heap.Ns L (fun y => (bind vs).reverse.lookup y) → Fm b (EnvF scope L [] q fo cd) [] s.heap →
      Walk prog w (A.deeper (EnvF scope L [] q fo cd)) b (EnvF scope L [] q fo cd) body s (P b)) :
    ∀ (s : Shared) (Q : Value → Shared → Prop) (E : Value → Shared → Prop), Ext h s.heap → (∀ v h' tk, Ext s.heap h' → P s.heap v h' → Q v { s with heap := h', toks := tk }) →
      wpAny (model prog w) A (call (.ref f) vs) Q E s := by
  intro s Q E e q
  obtain ⟨o, fd, ho, hdat, hcd, hb, hsc, hg, hbu, hcl, hbi⟩ := x.at_
  subst hsc
  refine wpAny_call (codeAny_call_def (fd := fd) (body := body) (binds := bind vs) hd (e _ _ ho) hdat (B.nolimit.keeps e) (hcd.keeps e) hb (hbi s e vs hk) hcell hloc (fun h₁ hns hkp => ?_) hco hgen hkind)
  have henv : callEnv fd s.heap.objs.size f = EnvF fd.scope s.heap.objs.size [] (fd.qualname ++ Str.ofString ".<locals>.") (some f) fd.code := by
    unfold callEnv newEnv EnvF; rw [hg, hbu, hcl]
  rw [henv]
  have hL : s.heap.get? s.heap.objs.size = none := none_of_ge (Nat.le_refl _)
  have F : Fm s.heap (EnvF fd.scope s.heap.objs.size [] (fd.qualname ++ Str.ofString ".<locals>.") (some f) fd.code) [] h₁ := {
    keep := hkp
    off := fun a ha => by
      rcases ha with rfl | ⟨n, l⟩ | ha
      · exact hL
      · cases l
      · cases ha
    kind := hkind
    ns := ⟨_, hns⟩
    cell := fun n c l => by cases l
    apart := fun n n' c l => by cases l
    glob := let ⟨m, n⟩ := B.g; ⟨m, n.keeps e⟩
    bult := let ⟨m, n⟩ := B.b; ⟨m, n.keeps e⟩
    lists := fun a ha => by cases ha }
  refine wpAny_mono (walk s.heap { s with heap := h₁, toks := s.toks + (bind vs).length } s.heap.objs.size _ _ _ e hns F _) (fun fl s' p => ?_) fun _ _ y => y
  obtain ⟨v, h', tk, rfl, rfl, k', p⟩ := p
  exact q v h' tk k' p

/-- the same, where names of the def are cells -/
theorem call_cells_ {f : Addr} {body : List Stmt} {scope : Scope} {k : Nat} {bind : List Value → List (Str × Value)} {vs : List Value} {P : Heap → Value → Heap → Prop} (B : Base h) (x : FnAt h f body scope k bind) (hk : vs.length = k) (hd : A.depth < recursionLimit)
    (hkind2 : ∀ n, ∀ y ∈ bind vs, scope.names.lookup y.1 = some .local ∨ (scope.names.lookup y.1 = some .cell ∧ ((cellsFrom n scope.names []).lookup y.1).isSome = true)) (hco : scope.isCoroutine = false) (hgen : scope.isGenerator = false) (hkind : scope.kind = .function)
    (walk : ∀ (b : Heap) (s : Shared) (L : Addr) (q : Str) (fo : Option Addr) (cd : Value), Ext h b → s.heap.Ns L (bindL (EnvF scope L (cellsFrom (L + 1) scope.names []) q fo cd).kindOf (bind vs) fun _ => none) →
      (∀ n c, (cellsFrom (L + 1) scope.names []).lookup n = some c → s.heap.IsCell c (bindC (EnvF scope L (cellsFrom (L + 1) scope.names []) q fo cd).kindOf (bind vs) (fun _ => none) n)) →
      Fm b (EnvF scope L (cellsFrom (L + 1) scope.names []) q fo cd) [] s.heap →
      Walk prog w (A.deeper (EnvF scope L (cellsFrom (L + 1) scope.names []) q fo cd)) b (EnvF scope L (cellsFrom (L + 1) scope.names []) q fo cd) body s (P b)) :
    ∀ (s : Shared) (Q : Value → Shared → Prop) (E : Value → Shared → Prop), Ext h s.heap → (∀ v h' tk, Ext s.heap h' → P s.heap v h' → Q v { s with heap := h', toks := tk }) →
      wpAny (model prog w) A (call (.ref f) vs) Q E s := by
  intro s Q E e q
  obtain ⟨o, fd, ho, hdat, hcd, hb, hsc, hg, hbu, hcl, hbi⟩ := x.at_
  subst hsc
  refine wpAny_call (codeAny_call_function hd (e _ _ ho) hdat hco hgen hb (hcd.keeps e) ?_)
  refine wpAny_mono (hbi s e vs hk _ _ _ (fun binds s' => binds = bind vs ∧ s' = s) ⟨rfl, rfl⟩) (fun binds s' hbs => ?_) (fun _ _ (y : False) => y.elim)
  obtain ⟨rfl, rfl⟩ := hbs
  rw [hcl]
  refine wpAny_newFunctionEnv_cells hkind (hkind2 _) fun env he s₁ x => ?_
  subst he
  refine ⟨(B.nolimit.keeps e).keeps x.toInCall.keep, codeAny_func ?_⟩
  have henv : newEnv fd.scope s'.heap.objs.size fd.globals (cellsFrom (s'.heap.objs.size + 1) fd.scope.names []) (fd.qualname ++ Str.ofString ".<locals>.") (some f) fd.code none fd.builtins = EnvF fd.scope s'.heap.objs.size (cellsFrom (s'.heap.objs.size + 1) fd.scope.names []) (fd.qualname ++ Str.ofString ".<locals>.") (some f) fd.code := by
    unfold newEnv EnvF; rw [hg, hbu]
  rw [henv] at x ⊢
  have hL : s'.heap.get? s'.heap.objs.size = none := none_of_ge (Nat.le_refl _)
  have F : Fm s'.heap (EnvF fd.scope s'.heap.objs.size (cellsFrom (s'.heap.objs.size + 1) fd.scope.names []) (fd.qualname ++ Str.ofString ".<locals>.") (some f) fd.code) [] s₁.heap := {
    keep := x.toInCall.keep
    off := fun a ha => by
      rcases ha with rfl | ⟨n, l⟩ | ha
      · exact hL
      · exact none_of_ge (Nat.le_of_lt (x.above n a (mem_of_lookup l)))
      · cases ha
    kind := hkind
    ns := ⟨_, x.toInCall.ns⟩
    cell := fun n c l => ⟨_, x.cell n c l⟩
    apart := fun n n' c l l' => name_of_addr x.apart (mem_of_lookup l) (mem_of_lookup l')
    glob := let ⟨m, n⟩ := B.g; ⟨m, n.keeps e⟩
    bult := let ⟨m, n⟩ := B.b; ⟨m, n.keeps e⟩
    lists := fun a ha => by cases ha }
  obtain ⟨h₁, tk₁, rfl⟩ := x.toInCall.same
  refine wpAny_mono (walk s'.heap { s' with heap := h₁, toks := tk₁ } s'.heap.objs.size _ _ _ e x.toInCall.ns x.cell F _) (fun fl s'' p => ?_) fun _ _ y => y
  obtain ⟨v, h', tk, rfl, rfl, k', p⟩ := p
  exact q v h' tk k' p
end
end Mine
end

section -- Au
open PySem PySem.W PyProof.Rows PySem.Calls
set_option Elab.async false
set_option maxRecDepth 100000
set_option maxHeartbeats 2000000
set_option linter.unusedVariables false
namespace Mine
section
variable {prog : Program} {w : World} {A : Around} {h : Heap} {env : Env} {l r : PySem.Expr} {pos : Pos} {a b : Int} {as bs : List Int}
theorem te_lt (x : Ev prog w A h (eval l env) (Is (.int a))) (y : Ev prog w A h (eval r env) (Is (.int b))) (hm : behindInMarks .Lt r = false := by with_unfolding_all rfl) : Te prog w A env h (.Compare l [.Lt] [r] pos) (decide (a < b)) := te_cmp x y (fun _ _ _ _ p q => cmp_lt p q) hm
theorem te_le (x : Ev prog w A h (eval l env) (Is (.int a))) (y : Ev prog w A h (eval r env) (Is (.int b))) (hm : behindInMarks .LtE r = false := by with_unfolding_all rfl) : Te prog w A env h (.Compare l [.LtE] [r] pos) (decide (a ≤ b)) := te_cmp x y (fun _ _ _ _ p q => cmp_le p q) hm
theorem te_gt (x : Ev prog w A h (eval l env) (Is (.int a))) (y : Ev prog w A h (eval r env) (Is (.int b))) (hm : behindInMarks .Gt r = false := by with_unfolding_all rfl) : Te prog w A env h (.Compare l [.Gt] [r] pos) (decide (b < a)) := te_cmp x y (fun _ _ _ _ p q => cmp_gt p q) hm
theorem te_ge (x : Ev prog w A h (eval l env) (Is (.int a))) (y : Ev prog w A h (eval r env) (Is (.int b))) (hm : behindInMarks .GtE r = false := by with_unfolding_all rfl) : Te prog w A env h (.Compare l [.GtE] [r] pos) (decide (b ≤ a)) := te_cmp x y (fun _ _ _ _ p q => cmp_ge p q) hm
theorem te_eqI (x : Ev prog w A h (eval l env) (Is (.int a))) (y : Ev prog w A h (eval r env) (Is (.int b))) (hm : behindInMarks .Eq r = false := by with_unfolding_all rfl) : Te prog w A env h (.Compare l [.Eq] [r] pos) (a == b) := te_cmp x y (fun _ _ _ _ p q => cmp_eq p q) hm
theorem te_neI (x : Ev prog w A h (eval l env) (Is (.int a))) (y : Ev prog w A h (eval r env) (Is (.int b))) (hm : behindInMarks .NotEq r = false := by with_unfolding_all rfl) : Te prog w A env h (.Compare l [.NotEq] [r] pos) (a != b) := te_cmp x y (fun _ _ _ _ p q => cmp_ne p q) hm
theorem te_neZ (hu : A.units + 64 < cLine) (x : Ev prog w A h (eval l env) (Is (.zs as))) (y : Ev prog w A h (eval r env) (Is (.zs bs))) (hm : behindInMarks .NotEq r = false := by with_unfolding_all rfl) : Te prog w A env h (.Compare l [.NotEq] [r] pos) (!decide (as = bs)) := te_cmp x y (fun _ _ _ _ p q => cmp_neZ p q hu) hm
theorem ev_eqZ (hu : A.units + 64 < cLine) (x : Ev prog w A h (eval l env) (Is (.zs as))) (y : Ev prog w A h (eval r env) (Is (.zs bs))) (hm : behindInMarks .Eq r = false := by with_unfolding_all rfl) : Ev prog w A h (eval (.Compare l [.Eq] [r] pos) env) (Is (.bool (decide (as = bs)))) := ev_cmp x y (fun _ _ _ _ p q => cmp_eqZ p q hu) hm
theorem te_isNone {u : Value} (x : Ev prog w A h (eval l env) (Is (.val u))) (y : Ev prog w A h (eval r env) (Is (.val .none))) (hp : plainIs u .none = true) (hm : behindInMarks .Is r = false := by with_unfolding_all rfl) : Te prog w A env h (.Compare l [.Is] [r] pos) (u == .none) :=
  te_cmp x y (fun _ _ _ _ (p : _ = _) (q : _ = _) => by subst p; subst q; exact Ev.of fun s Q e q => wpAny_is_plain hp (q _ s.heap s.toks (Ext.refl _) rfl)) hm

variable {f : Str} {p : Pos} {fv : Value} {d d1 d2 d3 : D} {e1 e2 e3 : PySem.Expr}
theorem ev_call1 (hf : Ev prog w A h (eval (.Name f p) env) (Is (.val fv))) (hc : Callee h fv) (x : Ev prog w A h (eval e1 env) (Is d1)) (k : ∀ h' v, Ext h h' → Is d1 v h' → Ev prog w A h' (call fv [v]) (Is d))
    (ht : backTo pos (starEach [e1] env) = [(false, eval e1 env)] := by rfl) : Ev prog w A h (eval (.Call (.Name f p) [e1] [] pos) env) (Is d) :=
  ev_call hf hc ht rfl (args_cons x args_nil) fun h' vs e i => by
    cases i with
    | cons i r => cases r; exact k h' _ e i
theorem ev_call2 (hf : Ev prog w A h (eval (.Name f p) env) (Is (.val fv))) (hc : Callee h fv) (x : Ev prog w A h (eval e1 env) (Is d1)) (y : Ev prog w A h (eval e2 env) (Is d2)) (k : ∀ h' v u, Ext h h' → Is d1 v h' → Is d2 u h' → Ev prog w A h' (call fv [v, u]) (Is d))
    (ht : backTo pos (starEach [e1, e2] env) = [(false, eval e1 env), (false, eval e2 env)] := by rfl) : Ev prog w A h (eval (.Call (.Name f p) [e1, e2] [] pos) env) (Is d) :=
  ev_call hf hc ht rfl (args_cons x (args_cons y args_nil)) fun h' vs e i => by
    cases i with
    | cons i r => cases r with
      | cons j r => cases r; exact k h' _ _ e i j
theorem ev_call3 (hf : Ev prog w A h (eval (.Name f p) env) (Is (.val fv))) (hc : Callee h fv) (x : Ev prog w A h (eval e1 env) (Is d1)) (y : Ev prog w A h (eval e2 env) (Is d2)) (z : Ev prog w A h (eval e3 env) (Is d3)) (k : ∀ h' v u t, Ext h h' → Is d1 v h' → Is d2 u h' → Is d3 t h' → Ev prog w A h' (call fv [v, u, t]) (Is d))
    (ht : backTo pos (starEach [e1, e2, e3] env) = [(false, eval e1 env), (false, eval e2 env), (false, eval e3 env)] := by rfl) : Ev prog w A h (eval (.Call (.Name f p) [e1, e2, e3] [] pos) env) (Is d) :=
  ev_call hf hc ht rfl (args_cons x (args_cons y (args_cons z args_nil))) fun h' vs e i => by
    cases i with
    | cons i r => cases r with
      | cons j r => cases r with
        | cons l r => cases r; exact k h' _ _ _ e i j l
theorem ev_len1 {ns : List Int} (hf : Ev prog w A h (eval (.Name f p) env) (Is (.val (.builtin "len")))) (x : Ev prog w A h (eval e1 env) (Is (.zs ns))) (hl : ns.length ≤ 1000)
    (ht : backTo pos (starEach [e1] env) = [(false, eval e1 env)] := by rfl) : Ev prog w A h (eval (.Call (.Name f p) [e1] [] pos) env) (Is (.int ns.length)) :=
  ev_call1 hf (.builtin _) x (fun h' v e i => ev_len i (by omega)) ht
theorem ev_lenL1 {ns : List (List Int)} (hf : Ev prog w A h (eval (.Name f p) env) (Is (.val (.builtin "len")))) (x : Ev prog w A h (eval e1 env) (Is (.zss ns))) (hl : ns.length ≤ 1000)
    (ht : backTo pos (starEach [e1] env) = [(false, eval e1 env)] := by rfl) : Ev prog w A h (eval (.Call (.Name f p) [e1] [] pos) env) (Is (.int ns.length)) :=
  ev_call1 hf (.builtin _) x (fun h' v e i => ev_lenL i (by omega)) ht

variable {s : Shared} {E : Value → Shared → Prop} {b : Heap} {ms : List Addr} {Q : Flow → Shared → Prop} {ρ : Rho} {rest : List Stmt}
theorem st_augAdd {x : Str} {px pos : Pos} {value : PySem.Expr} {i j : Int} (F : Fm b env ms s.heap) (V : VarsB env b s.heap ρ) (hx : Storable env x) (hl : ρ.lookup x = some (.int i)) (e : Ev prog w A s.heap (eval value env) (Is (.int j)))
    (hd : (x == ("__debug__" : Str)) = false) (hn : (x == ("__classdict__" : Str)) = false)
    (k : ∀ h' tk, Fm b env ms h' → VarsB env b h' ((x, .int (i + j)) :: ρ) → LExt s.heap h' → Chg env ms s.heap h' → wpAny (model prog w) A (execs rest env) Q E { s with heap := h', toks := tk }) :
    wpAny (model prog w) A (execs (.AugAssign (.Name x px) .Add value pos :: rest) env) Q E s := by
  obtain ⟨u, r, t, rfl⟩ := V x _ hl
  refine wpAny_execs_cons (wpAny_AugAssign_Name ?_)
  have fin : wpAny (model prog w) A (eval value env) (fun v s₂ => wpAny (model prog w) A (inplaceOp .Add (.int i t) v) (fun r s₃ => wpAny (model prog w) A (storeName env x r) (fun _ s' => wpAny (model prog w) A (execs rest env) Q E s') E s₃) E s₂) E s :=
    e.use (Ext.refl _) fun v h₁ t₁ k₁ p₁ => by
      obtain ⟨t', rfl⟩ := p₁
      exact PyProof.Rows.iadd_int (store_any (s := { s with heap := h₁, toks := t₁ + 1 }) (F.up k₁) hx fun h' tk F' r o l c => k h' tk F' ((V.up k₁).put r ⟨_, rfl⟩ o) (k₁.l.trans l) (k₁.chg.trans c))
  rcases r with ⟨kk, m, n, z⟩ | ⟨kk, c, l, z⟩ | ⟨kk, _⟩
  · exact wpAny_loadName_local F.kind kk n z fin
  · rcases kk with kk | kk
    · exact wpAny_loadName_cell F.kind kk l z fin
    · exact wpAny_loadName_free F.kind kk l z fin hn
  · rcases hx with hx | ⟨hx, _⟩ <;> rw [hx] at kk <;> cases kk
theorem st_augSub {x : Str} {px pos : Pos} {value : PySem.Expr} {i j : Int} (F : Fm b env ms s.heap) (V : VarsB env b s.heap ρ) (hx : Storable env x) (hl : ρ.lookup x = some (.int i)) (e : Ev prog w A s.heap (eval value env) (Is (.int j)))
    (hd : (x == ("__debug__" : Str)) = false) (hn : (x == ("__classdict__" : Str)) = false)
    (k : ∀ h' tk, Fm b env ms h' → VarsB env b h' ((x, .int (i - j)) :: ρ) → LExt s.heap h' → Chg env ms s.heap h' → wpAny (model prog w) A (execs rest env) Q E { s with heap := h', toks := tk }) :
    wpAny (model prog w) A (execs (.AugAssign (.Name x px) .Sub value pos :: rest) env) Q E s := by
  obtain ⟨u, r, t, rfl⟩ := V x _ hl
  refine wpAny_execs_cons (wpAny_AugAssign_Name ?_)
  have fin : wpAny (model prog w) A (eval value env) (fun v s₂ => wpAny (model prog w) A (inplaceOp .Sub (.int i t) v) (fun r s₃ => wpAny (model prog w) A (storeName env x r) (fun _ s' => wpAny (model prog w) A (execs rest env) Q E s') E s₃) E s₂) E s :=
    e.use (Ext.refl _) fun v h₁ t₁ k₁ p₁ => by
      obtain ⟨t', rfl⟩ := p₁
      exact PyProof.Rows.isub_int (store_any (s := { s with heap := h₁, toks := t₁ + 1 }) (F.up k₁) hx fun h' tk F' r o l c => k h' tk F' ((V.up k₁).put r ⟨_, rfl⟩ o) (k₁.l.trans l) (k₁.chg.trans c))
  rcases r with ⟨kk, m, n, z⟩ | ⟨kk, c, l, z⟩ | ⟨kk, _⟩
  · exact wpAny_loadName_local F.kind kk n z fin
  · rcases kk with kk | kk
    · exact wpAny_loadName_cell F.kind kk l z fin
    · exact wpAny_loadName_free F.kind kk l z fin hn
  · rcases hx with hx | ⟨hx, _⟩ <;> rw [hx] at kk <;> cases kk
end
end Mine
end

section -- WkB
open PySem PySem.W PyProof.Rows PySem.Calls
set_option Elab.async false
set_option maxRecDepth 100000
set_option maxHeartbeats 2000000
set_option linter.unusedVariables false
namespace Mine
local macro_rules | `(tactic| walk_at "ev") => `(tactic| first
  | exact ev_int
  | exact ev_none
  | exact ev_name (by assumption) rfl rfl rfl
  | (apply ev_add <;> first | (with_unfolding_all rfl) | walk_at "ev")
  | (apply ev_sub <;> first | (with_unfolding_all rfl) | walk_at "ev")
  | (apply te_lt <;> first | (with_unfolding_all rfl) | walk_at "ev")
  | (apply te_le <;> first | (with_unfolding_all rfl) | walk_at "ev")
  | (apply te_gt <;> first | (with_unfolding_all rfl) | walk_at "ev")
  | (apply te_ge <;> first | (with_unfolding_all rfl) | walk_at "ev")
  | (apply te_eqI <;> first | (with_unfolding_all rfl) | walk_at "ev")
  | (apply te_neI <;> first | (with_unfolding_all rfl) | walk_at "ev"))

local macro_rules | `(tactic| walk_at "sub") => `(tactic| repeat' (first | exact List.forall_mem_nil _ | refine List.forall_mem_cons.mpr ⟨rfl, ?_⟩))

def bisLoop (ns : List Int) (x : Int) : Nat → Nat → Nat → Nat
  | 0, lo, _ => lo
  | f + 1, lo, hi => if lo < hi then (if x < ns.getD ((lo + hi) / 2) 0 then bisLoop ns x f lo ((lo + hi) / 2) else bisLoop ns x f ((lo + hi) / 2 + 1) hi) else lo
def bis (ns : List Int) (x : Int) : Nat := bisLoop ns x ns.length 0 ns.length

theorem bisLoop_done (ns : List Int) (x : Int) (f lo hi : Nat) (h : ¬ lo < hi) : bisLoop ns x f lo hi = lo := by
  cases f with
  | zero => rfl
  | succ f => rw [bisLoop, if_neg h]

section
variable {prog : Program} {w : World} {A : Around} {b : Heap} {s : Shared} {L : Addr} {q : Str} {fo : Option Addr} {cd : Value} {ns : List Int} {x : Int}
abbrev rB (ns : List Int) (x : Int) : Rho := [("a", .zs ns), ("x", .int x), ("key", .val .none), ("len", .val (.builtin "len"))]

theorem walk_bis (F : Fm b (EnvF (dScope (defAt 1)) L [] q fo cd) [] s.heap) (V : VarsB (EnvF (dScope (defAt 1)) L [] q fo cd) b s.heap (("lo", .int 0) :: ("hi", .val .none) :: rB ns x)) (hl : ns.length ≤ 1000) :
    Walk prog w A b (EnvF (dScope (defAt 1)) L [] q fo cd) (dBody (defAt 1)) s fun v h' => Is (.int (bis ns x)) v h' := by
  intro E
  have V0 := V.vars F
  refine st_if (β := false) (te_eq (a := decide ((0 : Int) < 0)) (by walk_at "ev") rfl) (fun z => nomatch z) fun _ h₁ t₁ k₁ => wpAny_execs_nil ?_
  dsimp only
  have F₁ := F.up k₁; have V₁ := V.up k₁; have V1 := V₁.vars F₁
  refine st_if (s := { s with heap := h₁, toks := t₁ }) (β := true) (te_isNone (u := .none) (by walk_at "ev") (by walk_at "ev") rfl) (fun _ h₂ t₂ k₂ => ?_) (fun z => nomatch z)
  have F₂ := F₁.up k₂; have V₂ := V₁.up k₂; have V2 := V₂.vars F₂
  refine st_assignS (s := { s with heap := h₂, toks := t₂ }) (d := .int ns.length) F₂ V₂ (.inl rfl) trivial (ev_len1 (by walk_at "ev") (by walk_at "ev") hl) rfl fun h₃ t₃ F₃ V₃ _ _ => wpAny_execs_nil ?_
  dsimp only
  have V3 := V₃.vars F₃
  refine st_if (s := { s with heap := h₃, toks := t₃ }) (β := true) (te_isNone (u := .none) (by walk_at "ev") (by walk_at "ev") rfl) (fun _ h₄ t₄ k₄ => ?_) (fun z => nomatch z)
  have F₄ := F₃.up k₄; have V₄ := V₃.up k₄
  refine st_while (s := { s with heap := h₄, toks := t₄ }) (σ := Nat × Nat × Nat) (fun a => a.2.1 ≤ a.2.2 ∧ a.2.2 ≤ ns.length ∧ a.2.2 - a.2.1 ≤ a.1 ∧ bisLoop ns x a.1 a.2.1 a.2.2 = bis ns x) (fun a => a.2.2 - a.2.1) (fun a => decide (a.2.1 < a.2.2))
    (fun a => ("lo", .int a.2.1) :: ("hi", .int a.2.2) :: rB ns x) (ns.length, 0, ns.length) F₄ (V₄.sub (by walk_at "sub")) ⟨Nat.zero_le _, Nat.le_refl _, by simp, rfl⟩ ?test ?turn ?done
  case test =>
    rintro ⟨f, lo, hi⟩ h I F V
    have V' := V.vars F
    refine te_eq (a := decide ((lo : Int) < (hi : Int))) (by walk_at "ev") ?_
    simp
  case turn =>
    rintro ⟨f, lo, hi⟩ h tk E' I hβ F V
    obtain ⟨i1, i2, i3, i4⟩ := I
    dsimp only at i1 i2 i3 i4 hβ F V ⊢
    have hlt : lo < hi := of_decide_eq_true hβ
    have V' := V.vars F
    refine st_assignS (s := { s with heap := h, toks := tk }) (d := .int ((lo + hi) / 2 : Nat)) F V (.inl rfl) trivial (ev_eq (ev_div (b := 2) (by walk_at "ev") (by walk_at "ev") (by decide) (PyProof.noPylong_of_log2 (by decide +kernel))) (by
      rw [Int.fdiv_eq_ediv_of_nonneg _ (by decide)]; congr 1)) rfl fun h₁ t₁ F₁ V₁ _ c₁ => ?_
    have V1 := V₁.vars F₁
    obtain ⟨f, rfl⟩ : ∃ g, f = g + 1 := ⟨f - 1, by omega⟩
    rw [bisLoop, if_pos hlt] at i4
    refine st_if (s := { s with heap := h₁, toks := t₁ }) (β := decide (x < ns.getD ((lo + hi) / 2) 0)) (te_eq (te_lt (by walk_at "ev") (ev_item (k := ((lo + hi) / 2 : Nat)) (by walk_at "ev") (by walk_at "ev") (by omega) (by omega) (by omega))) (by rw [Int.toNat_natCast])) (fun hb h₂ t₂ k₂ => ?_) (fun hb h₂ t₂ k₂ => ?_)
    · rw [if_pos (of_decide_eq_true hb)] at i4
      have F₂ := F₁.up k₂; have V₂ := V₁.up k₂; have V2 := V₂.vars F₂
      refine st_assignS (s := { s with heap := h₂, toks := t₂ }) (d := .int ((lo + hi) / 2 : Nat)) F₂ V₂ (.inl rfl) trivial (by walk_at "ev") rfl fun h₃ t₃ F₃ V₃ _ c₃ => wpAny_execs_nil (wpAny_execs_nil ?_)
      exact ⟨(f, lo, (lo + hi) / 2), h₃, t₃, rfl, ⟨by dsimp only; omega, by dsimp only; omega, by dsimp only; omega, i4⟩, by dsimp only; omega, F₃, V₃.sub (by walk_at "sub"), c₁.trans (k₂.chg.trans c₃)⟩
    · rw [if_neg (of_decide_eq_false hb)] at i4
      have F₂ := F₁.up k₂; have V₂ := V₁.up k₂; have V2 := V₂.vars F₂
      refine st_assignS (s := { s with heap := h₂, toks := t₂ }) (d := .int ((lo + hi) / 2 + 1 : Nat)) F₂ V₂ (.inl rfl) trivial (ev_eq (ev_add (a := ((lo + hi) / 2 : Nat)) (b := 1) (by walk_at "ev") (by walk_at "ev")) (by simp)) rfl fun h₃ t₃ F₃ V₃ _ c₃ => wpAny_execs_nil (wpAny_execs_nil ?_)
      exact ⟨(f, (lo + hi) / 2 + 1, hi), h₃, t₃, rfl, ⟨by dsimp only; omega, by dsimp only; omega, by dsimp only; omega, i4⟩, by dsimp only; omega, F₃, V₃.sub (by walk_at "sub"), c₁.trans (k₂.chg.trans c₃)⟩
  case done =>
    rintro ⟨f, lo, hi⟩ h' tk I hβ F V c
    obtain ⟨i1, i2, i3, i4⟩ := I
    dsimp only at i1 i2 i3 i4 hβ F V ⊢
    rw [bisLoop_done _ _ _ _ _ (of_decide_eq_false hβ)] at i4
    have V' := V.vars F
    refine wpAny_execs_nil ?_
    refine st_ret (s := { s with heap := h', toks := tk }) (P := Is (.int lo)) (by walk_at "ev") fun v h₂ t₂ k₂ p₂ => ?_
    exact ⟨v, h₂, t₂, rfl, rfl, F.keep.trans k₂, i4 ▸ p₂⟩
end
end Mine
end

section -- Ct
open PySem PySem.W PyProof.Rows PySem.Calls
set_option Elab.async false
set_option maxRecDepth 100000
set_option maxHeartbeats 2000000
set_option linter.unusedVariables false
namespace Mine

def bindB (t : Tok) (vs : List Value) : List (Str × Value) := [("a", vs.getD 0 .none), ("x", vs.getD 1 .none), ("lo", .int 0 t), ("hi", .none), ("key", .none)]
def bindZ (ns : List Str) (vs : List Value) : List (Str × Value) := ns.zip vs
structure Ad where
  B : Addr
  P : Addr
  T : Addr
  N : Addr
  S : Addr
  O : Addr
structure Wd (a : Ad) (h : Heap) : Prop where
  nolimit : h.NoLimit
  names : ∃ mg mb, h.Ns mainGlobals mg ∧ h.Ns builtinsNs mb ∧ mg "bisect_right" = some (.ref a.B) ∧ mg "_law_pascal" = some (.ref a.P) ∧ mg "_law_things" = some (.ref a.T) ∧ mg "_law_number" = some (.ref a.N) ∧ mg "_law_shadow" = some (.ref a.S) ∧ mg "_law_bound" = some (.ref a.O) ∧
    (mg "len" = none ∧ mb "len" = some (.builtin "len")) ∧ (mg "range" = none ∧ mb "range" = some (.type "range")) ∧ (mg "sum" = none ∧ mb "sum" = some (.builtin "sum")) ∧ (mg "sorted" = none ∧ mb "sorted" = some (.builtin "sorted")) ∧
    (mg "abs" = none ∧ mb "abs" = some (.builtin "abs")) ∧ (mg "min" = none ∧ mb "min" = some (.builtin "min")) ∧ (mg "list" = none ∧ mb "list" = some (.type "list"))
  fB : ∃ t, FnAt h a.B (dBody (defAt 1)) (dScope (defAt 1)) 2 (bindB t)
  fP : FnAt h a.P (dBody (defAt 3)) (dScope (defAt 3)) 1 (bindZ ["top"])
  fT : FnAt h a.T (dBody (defAt 4)) (dScope (defAt 4)) 3 (bindZ ["rows", "k", "number"])
  fN : FnAt h a.N (dBody (defAt 5)) (dScope (defAt 5)) 2 (bindZ ["rows", "picked"])
  fS : FnAt h a.S (dBody (defAt 6)) (dScope (defAt 6)) 1 (bindZ ["sets"])
  fO : FnAt h a.O (dBody (defAt 7)) (dScope (defAt 7)) 3 (bindZ ["rows", "k", "m"])
theorem Wd.up {a : Ad} {h h' : Heap} (W : Wd a h) (e : Ext h h') : Wd a h' where
  nolimit := W.nolimit.keeps e
  names := let ⟨mg, mb, g, b, r⟩ := W.names; ⟨mg, mb, g.keeps e, b.keeps e, r⟩
  fB := let ⟨t, f⟩ := W.fB; ⟨t, f.up e⟩
  fP := W.fP.up e
  fT := W.fT.up e
  fN := W.fN.up e
  fS := W.fS.up e
  fO := W.fO.up e
theorem Wd.base {a : Ad} {h : Heap} (W : Wd a h) : Base h := ⟨W.nolimit, let ⟨mg, mb, g, b, _⟩ := W.names; ⟨mg, g⟩, let ⟨mg, mb, g, b, _⟩ := W.names; ⟨mb, b⟩⟩

section
variable {a : Ad} {h : Heap} {env : Env}
/-- what the globals' names lead to -/
inductive Gn (a : Ad) : Str → Value → Prop
  | B : Gn a "bisect_right" (.ref a.B)
  | P : Gn a "_law_pascal" (.ref a.P)
  | T : Gn a "_law_things" (.ref a.T)
  | N : Gn a "_law_number" (.ref a.N)
  | S : Gn a "_law_shadow" (.ref a.S)
  | O : Gn a "_law_bound" (.ref a.O)
  | len : Gn a "len" (.builtin "len")
  | range : Gn a "range" (.type "range")
  | sum : Gn a "sum" (.builtin "sum")
  | sorted : Gn a "sorted" (.builtin "sorted")
  | abs : Gn a "abs" (.builtin "abs")
  | min : Gn a "min" (.builtin "min")
  | list : Gn a "list" (.type "list")
theorem Wd.res (W : Wd a h) (hg : env.globals = mainGlobals) (hb : env.builtins = builtinsNs) {x : Str} {v : Value} (n : Gn a x v) (hk : env.kindOf x = some .globalImplicit) : Res env h x v := by
  obtain ⟨mg, mb, g, b, r1, r2, r3, r4, r5, r6, r7, r8, r9, r10, r11, r12, r13⟩ := W.names
  refine .inr (.inr ⟨hk, mg, hg ▸ g, ?_⟩)
  rw [hb]
  cases n with
  | B => exact .inl r1
  | P => exact .inl r2
  | T => exact .inl r3
  | N => exact .inl r4
  | S => exact .inl r5
  | O => exact .inl r6
  | len => exact .inr ⟨r7.1, mb, b, r7.2⟩
  | range => exact .inr ⟨r8.1, mb, b, r8.2⟩
  | sum => exact .inr ⟨r9.1, mb, b, r9.2⟩
  | sorted => exact .inr ⟨r10.1, mb, b, r10.2⟩
  | abs => exact .inr ⟨r11.1, mb, b, r11.2⟩
  | min => exact .inr ⟨r12.1, mb, b, r12.2⟩
  | list => exact .inr ⟨r13.1, mb, b, r13.2⟩

/-- names, one by one -/
inductive Named (env : Env) (b h : Heap) : Rho → Prop
  | nil : Named env b h []
  | cons {x : Str} {d : D} {v : Value} {ρ : Rho} : Res env h x v → Is d v b → Named env b h ρ → Named env b h ((x, d) :: ρ)
theorem Named.vars {env : Env} {b h : Heap} {ρ : Rho} (n : Named env b h ρ) : VarsB env b h ρ := by
  induction n with
  | nil => intro x d l; cases l
  | cons r i _ ih =>
    intro y d' l
    rcases lookup_cons_ne l with ⟨rfl, rfl⟩ | ⟨_, l⟩
    · exact ⟨_, r, i⟩
    · exact ih y d' l
end

section
variable {prog : Program} {w : World} {A : Around} {a : Ad} {h : Heap}
theorem evF_bis {ns : List Int} {x : Int} {va vx : Value} (W : Wd a h) (R : Room 1 A) (ia : Is (.zs ns) va h) (ix : Is (.int x) vx h) (hl : ns.length ≤ 1000) : EvF prog w A h (call (.ref a.B) [va, vx]) (.int (bis ns x)) := by
  obtain ⟨t, f⟩ := W.fB
  refine EvF.ofInt (Ev.of fun s Q e q => ?_)
  refine call_plain_ (P := fun _ v h' => Is (.int (bis ns x)) v h') W.base f rfl (by have := R.depth; omega) (by decide +kernel) (locs rfl) rfl rfl rfl (fun b s L qq fo cd eb hns F => ?_) s Q _ e q
  have res : ∀ x v, (dScope (defAt 1)).names.lookup x = some .local → (bindB t [va, vx]).reverse.lookup x = some v → Res (EnvF (dScope (defAt 1)) L [] qq fo cd) s.heap x v := fun x v h1 h2 => .inl ⟨h1, _, hns, h2⟩
  refine walk_bis F (Named.vars ?_) hl
  refine .cons (res _ _ rfl rfl) ⟨t, rfl⟩ (.cons (res _ _ rfl rfl) rfl (.cons (res _ _ rfl rfl) (ia.l eb.l) (.cons (res _ _ rfl rfl) (ix.l eb.l) (.cons (res _ _ rfl rfl) rfl (.cons ((W.up (eb.trans F.keep)).res rfl rfl .len rfl) rfl .nil)))))
end
end Mine
end

section -- WkT
open PySem PySem.W PyProof.Rows PySem.Calls
set_option Elab.async false
set_option maxRecDepth 100000
set_option maxHeartbeats 2000000
set_option linter.unusedVariables false
namespace Mine
local macro_rules | `(tactic| walk_at "ev") => `(tactic| first
  | exact ev_int
  | exact ev_none
  | exact ev_name (by assumption) rfl rfl rfl
  | (apply ev_add <;> first | (with_unfolding_all rfl) | walk_at "ev")
  | (apply ev_sub <;> first | (with_unfolding_all rfl) | walk_at "ev")
  | (apply te_lt <;> first | (with_unfolding_all rfl) | walk_at "ev")
  | (apply te_le <;> first | (with_unfolding_all rfl) | walk_at "ev")
  | (apply te_gt <;> first | (with_unfolding_all rfl) | walk_at "ev")
  | (apply te_ge <;> first | (with_unfolding_all rfl) | walk_at "ev")
  | (apply te_eqI <;> first | (with_unfolding_all rfl) | walk_at "ev")
  | (apply te_neI <;> first | (with_unfolding_all rfl) | walk_at "ev"))
local macro_rules | `(tactic| walk_at "sub") => `(tactic| repeat' (first | exact List.forall_mem_nil _ | refine List.forall_mem_cons.mpr ⟨rfl, ?_⟩))

section
variable {prog : Program} {w : World} {A : Around} {s : Shared} {E : Value → Shared → Prop} {b : Heap} {env : Env} {ms : List Addr} {Q : Flow → Shared → Prop} {ρ : Rho} {rest : List Stmt}
theorem Chg.more {h h' : Heap} {p : Addr} (x : Chg env ms h h') : Chg env (p :: ms) h h' := fun a o n e => x a o (fun z => n (z.imp id fun z => z.imp id fun z => .tail _ z)) e
theorem st_newlist {x : Str} {px pos lpos : Pos} {es : List PySem.Expr} {ds : List D} {ts : List (Bool × Sem Value)} (F : Fm b env ms s.heap) (V : VarsB env b s.heap ρ) (hx : Storable env x) (ht : backTo lpos (starEach es env) = ts) (ha : EvArgs prog w A s.heap ts ds) (hl : ds.length ≤ 100)
    (hs : swapsWith (.List es lpos) (some (.Name x px)) pos.line env = pure false)
    (k : ∀ p vs h₁ h' tk, Ext s.heap h₁ → h₁.get? p = none → h'.PlainList p vs.toArray → IsAll h₁ ds vs → LExt h₁ h' → Fm b env (p :: ms) h' → VarsB env b h' ((x, .val (.ref p)) :: ρ) → LExt s.heap h' → Chg env ms s.heap h' → wpAny (model prog w) A (execs rest env) Q E { s with heap := h', toks := tk }) :
    wpAny (model prog w) A (execs (.Assign [.Name x px] (.List es lpos) pos :: rest) env) Q E s := by
  refine wpAny_execs_cons (wpAny_Assign_Name (List_ ?_) hs)
  rw [ht]
  refine ha.use (Ext.refl _) fun vs h₁ t₁ k₁ p₁ => ?_
  refine wpAny_newList ?_ (by rw [p₁.length, sizeLine_eq]; omega)
  have k₂ : Ext s.heap (h₁.push { cls := .type "list", data := .seq vs.toArray }) := k₁.trans (ext_push _)
  have hp : (h₁.push { cls := .type "list", data := .seq vs.toArray }).PlainList h₁.objs.size vs.toArray := ⟨0, Heap.get?_push_size _ rfl⟩
  refine store_any (s := { s with heap := h₁.push { cls := .type "list", data := .seq vs.toArray }, toks := t₁ }) (F.up k₂) hx fun h' tk F' r o l c => ?_
  have hfr : s.heap.get? h₁.objs.size = none := by
    cases q : s.heap.get? h₁.objs.size with
    | none => rfl
    | some o => exact absurd (Heap.lt_size (k₁ _ o q)) (Nat.lt_irrefl _)
  refine k h₁.objs.size vs h₁ h' tk k₁ (none_of_ge (Nat.le_refl _)) (l.plain hp) p₁ ((ext_push _).l.trans l) ?_ ((V.up k₂).put r rfl o) (k₂.l.trans l) (k₂.chg.trans c)
  exact { F' with
    off := fun a ha => by
      rcases ha with ha | ha | ha
      · exact F'.off a (.inl ha)
      · exact F'.off a (.inr (.inl ha))
      · rcases List.mem_cons.mp ha with rfl | ha
        · cases q : b.get? h₁.objs.size with
          | none => rfl
          | some o => have := F.keep _ o q; rw [hfr] at this; cases this
        · exact F'.off a (.inr (.inr ha))
    lists := fun a ha => by
      rcases List.mem_cons.mp ha with rfl | ha
      · exact ⟨_, l.plain hp⟩
      · exact F'.lists a ha }
end

/-- what _law_things reckons: the number left before its j-th turn, and what that turn picks -/
def thN (rows : List (List Int)) (k : Nat) (num : Int) : Nat → Int
  | 0 => num
  | j + 1 => thN rows k num j - (rows.getD (k - j) []).getD ((bis (rows.getD (k - j) []) (thN rows k num j) : Int) - 1).toNat 0
def thA (rows : List (List Int)) (k : Nat) (num : Int) (j : Nat) : Int := (bis (rows.getD (k - j) []) (thN rows k num j) : Int) - 1
def things (rows : List (List Int)) (k : Nat) (num : Int) : List Int := (List.range k).map (thA rows k num)
theorem thN_succ (rows : List (List Int)) (k : Nat) (num : Int) (j : Nat) : thN rows k num (j + 1) = thN rows k num j - (rows.getD (k - j) []).getD (thA rows k num j).toNat 0 := rfl
/-- all places looked at are in bounds -/
def thOk (rows : List (List Int)) (k : Nat) (num : Int) : Prop := ∀ j, j < k → 0 ≤ thA rows k num j ∧ thA rows k num j < (rows.getD (k - j) []).length

theorem down_size : ∀ n : Fin 11, Builtin.Range.rangeSize (n.1 : Int) 0 (-1) = (n.1 : Int) ∧ Builtin.Range.small (n.1 : Int) 0 (-1) = true := by decide +kernel
theorem src_down {n : Nat} (h : n ≤ 10) : Src (.range n 0 (-1)) n fun i => .int ((n : Int) + (i : Int) * (-1)) := .range (down_size ⟨n, by omega⟩).2 (down_size ⟨n, by omega⟩).1
theorem up_small {a b : Int} (ha : 0 ≤ a) (ha' : a ≤ 2000) (hb : -10 ≤ b) (hb' : b ≤ 2000) : Builtin.Range.small a b 1 = true := small_one (by omega) (by omega) (by omega) (by omega)
theorem src_up {a b : Int} (ha : 0 ≤ a) (ha' : a ≤ 2000) (hb : -10 ≤ b) (hb' : b ≤ 2000) : Src (.range a b 1) (b - a).toNat fun i => .int (a + (i : Int) * 1) := .range (up_small ha ha' hb hb') (rangeSize_nat _ _)

section
variable {prog : Program} {w : World} {A : Around} {a : Ad} {b : Heap} {s : Shared} {L : Addr} {q : Str} {fo : Option Addr} {cd : Value} {rows : List (List Int)} {k : Nat} {num : Int}
abbrev rT (rows : List (List Int)) (k : Nat) (num : Int) (a : Ad) : Rho := [("number", .int num), ("rows", .zss rows), ("k", .int k), ("bisect_right", .val (.ref a.B)), ("range", .val (.type "range"))]

theorem walk_things (W : Wd a b) (R : Room 1 A) (F : Fm b (EnvF (dScope (defAt 4)) L [] q fo cd) [] s.heap) (V : VarsB (EnvF (dScope (defAt 4)) L [] q fo cd) b s.heap (rT rows k num a))
    (hk : k < rows.length) (hk' : k ≤ 10) (hr : rows.length ≤ 100) (hrow : ∀ r ∈ rows, r.length ≤ 100) (ok : thOk rows k num) :
    Walk prog w A b (EnvF (dScope (defAt 4)) L [] q fo cd) (dBody (defAt 4)) s fun v h' => Is (.zs (things rows k num)) v h' ∧ ∀ x, v = .ref x → b.get? x = none := by
  intro E
  refine st_newlist (ds := []) F V (.inl rfl) rfl args_nil (by simp) rfl fun p vs h₀ h₁ t₁ k₀ hp0 hp hall l₀ F₁ V₁ l₁ c₁ => ?_
  cases hall
  have V1 := V₁.vars F₁
  have hbp : b.get? p = none := F₁.off p (.inr (.inr (.head _)))
  refine st_for (s := { s with heap := h₁, toks := t₁ }) (d := .range k 0 (-1)) (n := k) (items := fun i => .int ((k : Int) + (i : Int) * (-1))) (fun j => ("picked", .val (.ref p)) :: rT rows k (thN rows k num j) a) (fun j h => ∃ ys, h.PlainList p ys ∧ IntsAre ys.toList ((List.range j).map (thA rows k num)) ∧ ys.size = j)
    R.hand F₁ V₁ ⟨#[], hp, .nil, rfl⟩ (fun i h h' ⟨ys, x, y, z⟩ e => ⟨ys, e.plain x, y, z⟩) (.inl rfl) (fun i hi => trivial) (src_down hk') ?src ?turn ?done
  case src =>
    refine (ev_call3 (d1 := .int k) (d2 := .int 0) (d3 := .int (-1)) (by walk_at "ev") (.type _) (by walk_at "ev") (by walk_at "ev") (ev_neg (by walk_at "ev")) (fun h' v u t e i j l => ev_range3 i j l (by decide) (PyProof.noPylong_of_log2 (by decide +kernel)))).mono fun v h' e i => ⟨i, fun x hx z => ?_⟩
    subst z
    obtain ⟨r, t, u, y, er, hr⟩ := i
    cases er
    rw [List.mem_singleton.mp hx] at hr
    obtain ⟨n', ho⟩ := e.l.plain hp
    have hr : h'.get? p = _ := hr
    have hcls := congrArg (fun o => o.map Obj.cls) (ho.symm.trans hr)
    exact absurd hcls (by simp)
  case turn =>
    rintro i h tk E' hi F V ⟨ys, hpl, hys, hsz⟩
    obtain ⟨ok1, ok2⟩ := ok i hi
    have V' := V.vars F
    have hki : ((k : Int) + (i : Int) * (-1)) = ((k - i : Nat) : Int) := by omega
    rw [hki] at V V'
    have hrl : (rows.getD (k - i) []).length ≤ 100 := hrow _ (by rw [List.getD, List.getElem?_eq_getElem (by omega)]; exact List.getElem_mem _)
    refine st_assignS (s := { s with heap := h, toks := tk }) (d := .int (thA rows k num i)) F V (.inl rfl) trivial (ev_sub (a := (bis (rows.getD (k - i) []) (thN rows k num i) : Int)) (b := 1) ?call (by walk_at "ev")) rfl fun h₂ t₂ F₂ V₂ l₂ c₂ => ?_
    case call =>
      refine ev_call2 (d1 := .zs (rows.getD (k - i) [])) (d2 := .int (thN rows k num i)) (by walk_at "ev") ?_ (ev_eq (ev_itemL (k := (k - i : Nat)) (by walk_at "ev") (by walk_at "ev") (by omega) (by omega) (by omega)) (by rw [Int.toNat_natCast])) (by walk_at "ev") (fun h' v u e i j => (evF_bis (W.up (F.keep.trans e)) R i j (by omega)).ev)
      obtain ⟨t, f⟩ := (W.up F.keep).fB
      exact f.callee
    have V2 := V₂.vars F₂
    refine st_append (s := { s with heap := h₂, toks := t₂ }) (a := p) (ys := ys) (P := Is (.int (thA rows k num i))) F₂ V₂ rfl (.head _) (l₂.plain hpl) (by omega) (by walk_at "ev") (fun v h₃ h₄ t₄ k₃ p₃ hs₄ hp₄ F₄ V₄ c₄ => ?_) rfl rfl rfl rfl rfl rfl rfl rfl
    have V4 := V₄.vars F₄
    refine st_assignS (s := { s with heap := h₄, toks := t₄ }) (d := .int (thN rows k num (i + 1))) F₄ V₄ (.inl rfl) trivial (by
      rw [thN_succ]
      exact ev_sub (by walk_at "ev") (ev_item (k := thA rows k num i) (ev_eq (ev_itemL (k := (k - i : Nat)) (by walk_at "ev") (by walk_at "ev") (by omega) (by omega) (by omega)) (by rw [Int.toNat_natCast])) (by walk_at "ev") ok1 ok2 (by omega))) rfl fun h₅ t₅ F₅ V₅ l₅ c₅ => wpAny_execs_nil ?_
    refine ⟨h₅, t₅, rfl, F₅, V₅.sub (by walk_at "sub"), ⟨ys.push v, l₅.plain hp₄, ?_, by rw [Array.size_push, hsz]⟩, c₂.trans (c₄.trans c₅)⟩
    obtain ⟨tv, rfl⟩ := p₃
    rw [List.range_succ, List.map_append, Array.toList_push]
    exact hys.append (.cons _ _ .nil)
  case done =>
    rintro h' tk F V ⟨ys, hpl, hys, hsz⟩ c
    have V' := V.vars F
    refine st_ret (s := { s with heap := h', toks := tk }) (P := Is (.val (.ref p))) (by walk_at "ev") fun v h₂ t₂ k₂ (p₂ : v = .ref p) => ?_
    subst p₂
    refine ⟨_, h₂, t₂, rfl, rfl, F.keep.trans k₂, ⟨p, ys.toList, rfl, by simpa using k₂.l.isList (plain_isList hpl), hys⟩, fun x e => by cases e; exact hbp⟩

theorem evF_things {va vk vn : Value} {h : Heap} (W : Wd a h) (R : Room 2 A) (ia : Is (.zss rows) va h) (ik : Is (.int k) vk h) (inn : Is (.int num) vn h) (hk : k < rows.length) (hk' : k ≤ 10) (hr : rows.length ≤ 100) (hrow : ∀ r ∈ rows, r.length ≤ 100) (ok : thOk rows k num) :
    EvF prog w A h (call (.ref a.T) [va, vk, vn]) (.zs (things rows k num)) := by
  refine EvF.of fun s Q e q => ?_
  refine call_plain_ (P := fun b v h' => Is (.zs (things rows k num)) v h' ∧ ∀ x, v = .ref x → b.get? x = none) W.base W.fT rfl (by have := R.depth; omega) (by decide +kernel) (locs rfl) rfl rfl rfl (fun b s L qq fo cd eb hns F => ?_) s Q _ e fun v h' tk k p => q v h' tk k p.1 p.2
  have res : ∀ x v, (dScope (defAt 4)).names.lookup x = some .local → (bindZ ["rows", "k", "number"] [va, vk, vn]).reverse.lookup x = some v → Res (EnvF (dScope (defAt 4)) L [] qq fo cd) s.heap x v := fun x v h1 h2 => .inl ⟨h1, _, hns, h2⟩
  refine walk_things (W.up eb) (R.deeper _) F (Named.vars ?_) hk hk' hr hrow ok
  refine .cons (res _ _ rfl rfl) (inn.l eb.l) (.cons (res _ _ rfl rfl) (ia.l eb.l) (.cons (res _ _ rfl rfl) (ik.l eb.l) (.cons ((W.up (eb.trans F.keep)).res rfl rfl .B rfl) rfl (.cons ((W.up (eb.trans F.keep)).res rfl rfl .range rfl) rfl .nil))))
end
end Mine
end

section -- WkP
open PySem PySem.W PyProof.Rows PySem.Calls
set_option Elab.async false
set_option maxRecDepth 100000
set_option maxHeartbeats 2000000
set_option linter.unusedVariables false
namespace Mine
local macro_rules | `(tactic| walk_at "ev") => `(tactic| first
  | exact ev_int
  | exact ev_none
  | exact ev_name (by assumption) rfl rfl rfl
  | (apply ev_add <;> first | (with_unfolding_all rfl) | walk_at "ev")
  | (apply ev_sub <;> first | (with_unfolding_all rfl) | walk_at "ev")
  | (apply te_lt <;> first | (with_unfolding_all rfl) | walk_at "ev")
  | (apply te_le <;> first | (with_unfolding_all rfl) | walk_at "ev")
  | (apply te_gt <;> first | (with_unfolding_all rfl) | walk_at "ev")
  | (apply te_ge <;> first | (with_unfolding_all rfl) | walk_at "ev")
  | (apply te_eqI <;> first | (with_unfolding_all rfl) | walk_at "ev")
  | (apply te_neI <;> first | (with_unfolding_all rfl) | walk_at "ev"))
local macro_rules | `(tactic| walk_at "sub") => `(tactic| repeat' (first | exact List.forall_mem_nil _ | refine List.forall_mem_cons.mpr ⟨rfl, ?_⟩))

section
variable {b h : Heap} {env : Env} {ms : List Addr} {ρ : Rho}
theorem Vars.cast {x : Str} {v : Value} {d : D} (V : Vars env h ρ) (l : ρ.lookup x = some (.val v)) (i : Is d v h) : Vars env h ((x, d) :: ρ) := by
  refine ⟨V.1, fun y d' l' => ?_⟩
  rcases lookup_cons_ne l' with ⟨rfl, rfl⟩ | ⟨_, l'⟩
  · obtain ⟨u, r, e⟩ := V.2 y _ l
    have e : u = v := e
    subst e
    exact ⟨_, r, i⟩
  · exact V.2 y d' l'
def homeOf (env : Env) : List Addr := env.locals :: env.cells.map (·.2)
theorem mem_home {env : Env} {a : Addr} : a ∈ homeOf env ↔ Mut env [] a ∨ ∃ n, (n, a) ∈ env.cells := by
  unfold homeOf
  constructor
  · intro h
    rcases List.mem_cons.mp h with rfl | h
    · exact .inl (.inl rfl)
    · obtain ⟨⟨n, c⟩, hc, rfl⟩ := List.mem_map.mp h; exact .inr ⟨n, hc⟩
  · rintro ((rfl | ⟨n, l⟩ | h) | ⟨n, h⟩)
    · exact .head _
    · exact .tail _ (List.mem_map.mpr ⟨(n, a), mem_of_lookup l, rfl⟩)
    · cases h
    · exact .tail _ (List.mem_map.mpr ⟨(n, a), h, rfl⟩)
/-- the frame's cells are all at hand by their names -/
def Tidy (env : Env) : Prop := ∀ n c, (n, c) ∈ env.cells → env.cells.lookup n = some c
theorem Fm.rebase (F : Fm b env ms h) (t : Tidy env) : Fm (hideAll h (homeOf env)) env [] h ∧ Ext b (hideAll h (homeOf env)) ∧ LExt h (hideAll h (homeOf env)) := by
  have hm : ∀ a, a ∈ homeOf env → Mut env [] a := fun a ha => (mem_home.mp ha).elim id fun ⟨n, q⟩ => .inr (.inl ⟨n, t n a q⟩)
  have hm' : ∀ a, a ∈ homeOf env → Mut env ms a := fun a ha => (hm a ha).imp id fun z => z.imp id fun z => by cases z
  have hb : Ext b (hideAll h (homeOf env)) := fun a o e => hideAll_get _ (F.keep a o e) fun ha => by rw [F.off a (hm' a ha)] at e; cases e
  refine ⟨{ keep := fun a o e => of_hideAll _ e, off := fun a ha => hideAll_none _ (mem_home.mpr (.inl ha)), kind := F.kind, ns := F.ns, cell := F.cell, apart := F.apart, glob := let ⟨m, n⟩ := F.glob; ⟨m, n.keeps hb⟩, bult := let ⟨m, n⟩ := F.bult; ⟨m, n.keeps hb⟩, lists := fun a ha => by cases ha }, hb, fun a o e f => hideAll_get _ e fun ha => ?_⟩
  rcases hm a ha with rfl | ⟨n, l⟩ | z
  · obtain ⟨m, o', es, ep, ho, hd, _⟩ := F.ns
    rw [ho] at e; cases e
    rcases f with ⟨xs, n, d⟩ | ⟨_, g, d⟩ <;> rw [hd] at d <;> cases d
  · obtain ⟨v, o', ho, hd⟩ := F.cell n a l
    rw [ho] at e; cases e
    rcases f with ⟨xs, n, d⟩ | ⟨_, g, d⟩ <;> rw [hd] at d <;> cases d
  · cases z
/-- back to a smaller base, with lists that the larger one held fast -/
theorem Fm.back {b' h' : Heap} {ms' : List Addr} (F : Fm b env ms h) (F' : Fm b' env ms' h') (e : Ext b b') (hl : ∀ a ∈ ms, ∃ xs, h'.PlainList a xs) : Fm b env (ms' ++ ms) h' where
  keep := e.trans F'.keep
  off := fun a ha => by
    rcases ha with ha | ha | ha
    · exact F.off a (.inl ha)
    · exact F.off a (.inr (.inl ha))
    · rcases List.mem_append.mp ha with ha | ha
      · cases q : b.get? a with
        | none => rfl
        | some o => have := e a o q; rw [F'.off a (.inr (.inr ha))] at this; cases this
      · exact F.off a (.inr (.inr ha))
  kind := F.kind
  ns := F'.ns
  cell := F'.cell
  apart := F.apart
  glob := F.glob
  bult := F.bult
  lists := fun a ha => (List.mem_append.mp ha).elim (F'.lists a) (hl a)
theorem Chg.weak {ms' : List Addr} {h' : Heap} (x : Chg env ms h h') (k : ∀ a ∈ ms, a ∈ ms') : Chg env ms' h h' := fun a o n e => x a o (fun z => n (z.imp id fun z => z.imp id (k a))) e
end

theorem VarsB.base {env : Env} {b b' h : Heap} {ρ : Rho} (V : VarsB env b h ρ) (e : LExt b b') : VarsB env b' h ρ := fun x d l => let ⟨v, r, i⟩ := V x d l; ⟨v, r, i.l e⟩
theorem VarsB.scal {env : Env} {b b' h : Heap} {ρ : Rho} (V : VarsB env b h ρ) (e : ∀ p ∈ ρ, Scalar p.2) : VarsB env b' h ρ := fun x d l => let ⟨v, r, i⟩ := V x d l; ⟨v, r, i.scalar (e _ (mem_of_lookup l))⟩
theorem Fm.drop {b h : Heap} {env : Env} {ms ms' : List Addr} (F : Fm b env ms h) (k : ∀ a ∈ ms', a ∈ ms) : Fm b env ms' h :=
  { F with off := fun a ha => F.off a (ha.imp id fun z => z.imp id (k a)), lists := fun a ha => F.lists a (k a ha) }
theorem Chg.drop {env : Env} {ms : List Addr} {r : Addr} {h h' : Heap} (c : Chg env (r :: ms) h h') (n : h.get? r = none) : Chg env ms h h' := fun a o m e => c a o (fun z => by
  rcases z with z | z | z
  · exact m (.inl z)
  · exact m (.inr (.inl z))
  · rcases List.mem_cons.mp z with rfl | z
    · rw [n] at e; cases e
    · exact m (.inr (.inr z))) e

theorem st_newlist1 {prog : Program} {w : World} {A : Around} {s : Shared} {E : Value → Shared → Prop} {b : Heap} {env : Env} {ms : List Addr} {Q : Flow → Shared → Prop} {ρ : Rho} {rest : List Stmt}
    {x : Str} {px pos lpos : Pos} {e : PySem.Expr} {d : D} (F : Fm b env ms s.heap) (V : VarsB env b s.heap ρ) (hx : Storable env x) (ha : Ev prog w A s.heap (eval e env) (Is d))
    (hs : swapsWith (.List [e] lpos) (some (.Name x px)) pos.line env = pure false) (ht : backTo lpos (starEach [e] env) = [(false, eval e env)])
    (k : ∀ p vs h₁ h' tk, Ext s.heap h₁ → h₁.get? p = none → h'.PlainList p vs.toArray → IsAll h₁ [d] vs → LExt h₁ h' → Fm b env (p :: ms) h' → VarsB env b h' ((x, .val (.ref p)) :: ρ) → LExt s.heap h' → Chg env ms s.heap h' → wpAny (model prog w) A (execs rest env) Q E { s with heap := h', toks := tk }) :
    wpAny (model prog w) A (execs (.Assign [.Name x px] (.List [e] lpos) pos :: rest) env) Q E s :=
  st_newlist F V hx ht (args_cons ha args_nil) (by simp) hs k

/-- Pascal's rows as the law builds them -/
def pcell (prev : List Int) : Nat → Int
  | 0 => 0
  | j + 1 => pcell prev j + prev.getD j 0
def pas (top : Nat) : Nat → List Int
  | 0 => List.replicate top 1
  | i + 1 => (List.range top).map (pcell (pas top i))
def pascal (top : Nat) : List (List Int) := (List.range 6).map (pas top)
theorem pas_length (top i : Nat) : (pas top i).length = top := by cases i <;> simp [pas]

section
variable {prog : Program} {w : World} {A : Around} {a : Ad} {b : Heap} {s : Shared} {L : Addr} {q : Str} {fo : Option Addr} {cd : Value} {top : Nat}
abbrev rP (top : Nat) : Rho := [("top", .int top), ("range", .val (.type "range"))]

theorem ev_one {env : Env} {i : Int} {k : Nat} {p pos : Pos} {h : Heap} : ∀ (s : Shared) (Q : Value → Shared → Prop), Ext h s.heap → (∀ a vs h' tk, Ext s.heap h' → h'.PlainList a vs.toArray → IntsAre vs [i] → Q (.ref a) { s with heap := h', toks := tk }) →
    wpAny (model prog w) A (eval (.List [.Constant (.int i) k p] pos) env) Q (fun _ _ => False) s := by
  intro s Q e q
  refine List_ ((args_cons (A := A) (prog := prog) (w := w) (h := h) (d := .int i) (ev_int (k := k) (pos := p) (env := env)) args_nil).use e fun vs h₁ t₁ k₁ p₁ => wpAny_newList (q _ vs _ t₁ (k₁.trans (ext_push _)) ⟨0, Heap.get?_push_size _ rfl⟩ (ints_of_all (ns := [i]) p₁)) ?_)
  rw [p₁.length, sizeLine_eq]; simp

theorem range_off {h h' : Heap} {ms : List Addr} {i j c : Int} {v : Value} (e : Ext h h') (hl : ∀ x ∈ ms, ∃ xs, h.PlainList x xs) (i : Is (.range i j c) v h') : ∀ x ∈ ms, v ≠ .ref x := by
  rintro x hx rfl
  obtain ⟨r, t, u, y, er, hr⟩ := i
  cases er
  obtain ⟨xs, n', ho⟩ := hl x hx
  have ho := e _ _ ho
  have hr : h'.get? x = _ := hr
  have hcls := congrArg (fun o => o.map Obj.cls) (ho.symm.trans hr)
  exact absurd hcls (by simp)

theorem walk_pascal (R : Room 1 A) (F : Fm b (EnvF (dScope (defAt 3)) L [] q fo cd) [] s.heap) (V : VarsB (EnvF (dScope (defAt 3)) L [] q fo cd) b s.heap (rP top)) (h1 : 1 ≤ top) (h2 : top ≤ 100) :
    Walk prog w A b (EnvF (dScope (defAt 3)) L [] q fo cd) (dBody (defAt 3)) s fun v h' => Is (.zss (pascal top)) v h' := by
  intro E
  have V0 := V.vars F
  have tidy : Tidy (EnvF (dScope (defAt 3)) L [] q fo cd) := fun n c h => by cases h
  refine st_newlist (ds := [.zs (List.replicate top 1)]) F V (.inl rfl) rfl (args_cons (ev_eq (ev_mulZ (x := 1) (t := top) (fun s Q e q => ev_one s Q e q) (by walk_at "ev") (by omega) (by omega)) (by rw [Int.toNat_natCast])) args_nil) (by simp) rfl fun p vs h₀ h₁ t₁ k₀ hp0 hp hall l₀ F₁ V₁ l₁ c₁ => ?_
  have V1 := V₁.vars F₁
  refine st_for (s := { s with heap := h₁, toks := t₁ }) (d := .range 1 6 1) (n := 5) (items := fun i => .int (1 + (i : Int) * 1)) (fun j => ("rows", .val (.ref p)) :: rP top) (fun j h => ∃ ys, h.PlainList p ys ∧ Items h p ((List.range (j + 1)).map fun i => .zs (pas top i)) ys ∧ ys.size = j + 1)
    R.hand F₁ V₁ ?x0 (fun i h h' ⟨ys, x, y, z⟩ e => ⟨ys, e.plain x, y.l e, z⟩) (.inl rfl) (fun i hi => trivial) (src_up (by decide) (by decide) (by decide) (by decide)) ?src ?turn ?done
  case x0 =>
    have hsz : vs.length = 1 := hall.length
    refine ⟨vs.toArray, hp, ⟨by simpa [pas] using hall.l l₀, ?_, ?_⟩, by simpa using hsz⟩
    · intro d hd
      obtain ⟨i, _, rfl⟩ := List.mem_map.mp hd
      trivial
    · cases hall with
      | cons x r =>
        cases r
        intro y hy e
        have hy := List.mem_singleton.mp (show y ∈ [_] from hy)
        obtain ⟨z, zs, ez, ⟨o, ho, _⟩, _⟩ := x
        rw [← hy, e] at ez
        cases ez
        rw [hp0] at ho; cases ho
  case src =>
    exact (ev_call2 (d1 := .int 1) (d2 := .int 6) (by walk_at "ev") (.type _) (by walk_at "ev") (by walk_at "ev") (fun h' v u e i j => ev_range2 i j)).mono fun v h' e i => ⟨i, range_off e F₁.lists i⟩
  case turn =>
    rintro i h tk E' hi F V ⟨ys, hpl, its, hsz⟩
    obtain ⟨F', eb, lb⟩ := F.rebase tidy
    have V' := V.base eb.l
    have hrows : Is (.zss ((List.range (i + 1)).map (pas top))) (.ref p) (hideAll h (homeOf (EnvF (dScope (defAt 3)) L [] q fo cd))) :=
      ⟨p, ys.toList, rfl, by simpa using lb.isList (plain_isList hpl), paired_of_all (by have := its.all.l lb; simpa [List.map_map, Function.comp_def] using this)⟩
    refine st_newlist1 (s := { s with heap := h, toks := tk }) (d := .int 0) F' V' (.inl rfl) ev_int rfl rfl fun r vs h₂ h₃ t₃ k₂ hr0 hr hall l₂ F₃ V₃ l₃ c₃ => ?_
    have hrh : h.get? r = none := by
      cases z : h.get? r with
      | none => rfl
      | some o => have := k₂ r o z; rw [hr0] at this; cases this
    have hvs := ints_of_all (ns := [0]) hall
    have hvl : vs.length = 1 := hall.length
    have V3 := V₃.vars F₃
    refine st_for (s := { s with heap := h₃, toks := t₃ }) (d := .range 1 top 1) (n := ((top : Int) - 1).toNat) (items := fun i => .int (1 + (i : Int) * 1)) (fun j => ("row", .val (.ref r)) :: ("i", .int (1 + (i : Int) * 1)) :: ("rows", .val (.ref p)) :: rP top)
      (fun j h => ∃ zs, h.PlainList r zs ∧ IntsAre zs.toList ((List.range (j + 1)).map (pcell (pas top i))) ∧ zs.size = j + 1)
      R.hand F₃ V₃ ⟨vs.toArray, hr, by simpa [pcell] using hvs, by simpa using hvl⟩ (fun i h h' ⟨ys, x, y, z⟩ e => ⟨ys, e.plain x, y, z⟩) (.inl rfl) (fun i hi => trivial) (src_up (by decide) (by decide) (by omega) (by omega)) ?src2 ?turn2 ?done2
    case src2 =>
      exact (ev_call2 (d1 := .int 1) (d2 := .int top) (by walk_at "ev") (.type _) (by walk_at "ev") (by walk_at "ev") (fun h' v u e i j => ev_range2 i j)).mono fun v h' e i => ⟨i, range_off e F₃.lists i⟩
    case turn2 =>
      rintro j h₄ tk₄ E'' hj F₄ V₄ ⟨zs, hz, hzs, hzl⟩
      have V4 := V₄.vars F₄
      have V5 := V4.cast (x := "row") rfl (d := .zs ((List.range (j + 1)).map (pcell (pas top i)))) ⟨r, zs.toList, rfl, by simpa using plain_isList hz, hzs⟩
      have V6 := V5.cast (x := "rows") rfl (hrows.l F₄.keep.l)
      clear V4 V5
      have hjj : (1 + (j : Int) * 1) - 1 = (j : Nat) := by omega
      have hii : (1 + (i : Int) * 1) - 1 = (i : Nat) := by omega
      have e1 : ((List.range (j + 1)).map (pcell (pas top i))).getD j 0 = pcell (pas top i) j := by simp [List.getD]
      have e2 : ((List.range (i + 1)).map (pas top)).getD i [] = pas top i := by simp [List.getD]
      refine st_append (s := { s with heap := h₄, toks := tk₄ }) (a := r) (ys := zs) (P := Is (.int (pcell (pas top i) (j + 1)))) F₄ V₄ rfl (.head _) hz (by omega) ?elt (fun v h₅ h₆ t₆ k₅ p₅ hs₆ hp₆ F₆ V₆ c₆ => wpAny_execs_nil ?_) rfl rfl rfl rfl rfl rfl rfl rfl
      case elt =>
        refine ev_add (ev_eq (ev_item (k := (j : Nat)) (by walk_at "ev") (ev_eq (by walk_at "ev") (congrArg D.int hjj)) (by omega) (by rw [List.length_map, List.length_range]; omega) (by rw [List.length_map, List.length_range]; omega)) (by rw [Int.toNat_natCast, e1])) (ev_eq (ev_item (k := (j : Nat)) (ns := pas top i) (ev_eq (ev_itemL (k := (i : Nat)) (by walk_at "ev") (ev_eq (by walk_at "ev") (congrArg D.int hii)) (by omega) (by rw [List.length_map, List.length_range]; omega) (by rw [List.length_map, List.length_range]; omega)) (by rw [Int.toNat_natCast, e2])) (ev_eq (by walk_at "ev") (congrArg D.int hjj)) (by omega) (by rw [pas_length]; omega) (by rw [pas_length]; omega)) (by rw [Int.toNat_natCast]))
      refine ⟨h₆, t₆, rfl, F₆, V₆.sub (by walk_at "sub"), ⟨zs.push v, hp₆, ?_, by rw [Array.size_push, hzl]⟩, c₆⟩
      obtain ⟨tv, rfl⟩ := p₅
      rw [List.range_succ, List.map_append, Array.toList_push]
      exact hzs.append (.cons _ _ .nil)
    case done2 =>
      rintro h₄ tk₄ F₄ V₄ ⟨zs, hz, hzs, hzl⟩ c₄
      have hp₄ : h₄.PlainList p ys := F₄.keep.l.plain (lb.plain hpl)
      have F₅ := F.back F₄ eb (fun x hx => by rw [List.mem_singleton.mp hx]; exact ⟨_, hp₄⟩)
      have V₅ : VarsB (EnvF (dScope (defAt 3)) L [] q fo cd) b h₄ (("row", .val (.ref r)) :: ("i", .int (1 + (i : Int) * 1)) :: ("rows", .val (.ref p)) :: rP top) := V₄.scal (by
        repeat' (first | exact List.forall_mem_nil _ | refine List.forall_mem_cons.mpr ⟨trivial, ?_⟩))
      have V5 := V₅.vars F₅
      refine st_append (s := { s with heap := h₄, toks := tk₄ }) (a := p) (ys := ys) (P := Is (.val (.ref r))) F₅ V₅ rfl (List.mem_append_right _ (.head _)) hp₄ (by omega) (by walk_at "ev") (fun v h₅ h₆ t₆ k₅ (p₅ : v = .ref r) hs₆ hp₆ F₆ V₆ c₆ => wpAny_execs_nil ?_) rfl rfl rfl rfl rfl rfl rfl rfl
      subst p₅
      refine ⟨h₆, t₆, rfl, F₆.drop (fun a ha => List.mem_append_right _ ha), V₆.sub (by walk_at "sub"), ⟨ys.push (.ref r), hp₆, ?_, by rw [Array.size_push, hsz]⟩, ?_⟩
      · rw [List.range_succ, List.map_append]
        have its₅ : Items h₅ p ((List.range (i + 1)).map fun i => .zs (pas top i)) ys := by
          have := its.l lb
          exact (this.l F₄.keep.l).l k₅.l
        refine its₅.push hs₆ ⟨r, zs.toList, rfl, by simpa using k₅.l.isList (plain_isList hz), ?_⟩ trivial (fun e => by
          cases e
          obtain ⟨n', ho⟩ := hpl
          rw [hrh] at ho; cases ho)
        have hn : ((top : Int) - 1).toNat + 1 = top := by omega
        rw [hn] at hzs
        exact hzs
      · refine Chg.drop (r := r) ((c₃.weak (fun a ha => by cases ha)).trans ((c₄.weak (fun a ha => ?_)).trans c₆)) hrh
        rw [List.mem_singleton.mp ha]; exact .head _
  case done =>
    rintro h' tk F V ⟨ys, hpl, its, hsz⟩ c
    have V' := V.vars F
    refine st_ret (s := { s with heap := h', toks := tk }) (P := Is (.val (.ref p))) (by walk_at "ev") fun v h₂ t₂ k₂ (p₂ : v = .ref p) => ?_
    subst p₂
    refine ⟨_, h₂, t₂, rfl, rfl, F.keep.trans k₂, p, ys.toList, rfl, by simpa using k₂.l.isList (plain_isList hpl), paired_of_all ?_⟩
    have := its.all.l k₂.l
    simpa [pascal, List.map_map, Function.comp_def] using this
end
end Mine
end

section -- WkN
open PySem PySem.W PyProof.Rows PySem.Calls
set_option Elab.async false
set_option maxRecDepth 100000
set_option maxHeartbeats 2000000
set_option linter.unusedVariables false
namespace Mine
local macro_rules | `(tactic| walk_at "ev") => `(tactic| first
  | exact ev_int
  | exact ev_none
  | exact ev_name (by assumption) rfl rfl rfl
  | (apply ev_add <;> first | (with_unfolding_all rfl) | walk_at "ev")
  | (apply ev_sub <;> first | (with_unfolding_all rfl) | walk_at "ev")
  | (apply te_lt <;> first | (with_unfolding_all rfl) | walk_at "ev")
  | (apply te_le <;> first | (with_unfolding_all rfl) | walk_at "ev")
  | (apply te_gt <;> first | (with_unfolding_all rfl) | walk_at "ev")
  | (apply te_ge <;> first | (with_unfolding_all rfl) | walk_at "ev")
  | (apply te_eqI <;> first | (with_unfolding_all rfl) | walk_at "ev")
  | (apply te_neI <;> first | (with_unfolding_all rfl) | walk_at "ev"))
local macro_rules | `(tactic| walk_at "sub") => `(tactic| repeat' (first | exact List.forall_mem_nil _ | refine List.forall_mem_cons.mpr ⟨rfl, ?_⟩))

section
variable {prog : Program} {w : World} {A : Around} {a : Ad} {h : Heap} {top : Nat}
theorem ev_pascal {vt : Value} (W : Wd a h) (R : Room 2 A) (it : Is (.int top) vt h) (h1 : 1 ≤ top) (h2 : top ≤ 100) : Ev prog w A h (call (.ref a.P) [vt]) (Is (.zss (pascal top))) := by
  refine Ev.of fun s Q e q => ?_
  refine call_plain_ (P := fun b v h' => Is (.zss (pascal top)) v h') W.base W.fP rfl (by have := R.depth; omega) (by decide +kernel) (locs rfl) rfl rfl rfl (fun b s L qq fo cd eb hns F => ?_) s Q _ e q
  have res : ∀ x v, (dScope (defAt 3)).names.lookup x = some .local → (bindZ ["top"] [vt]).reverse.lookup x = some v → Res (EnvF (dScope (defAt 3)) L [] qq fo cd) s.heap x v := fun x v h1 h2 => .inl ⟨h1, _, hns, h2⟩
  refine walk_pascal (R.deeper _) F (Named.vars ?_) h1 h2
  exact .cons (res _ _ rfl rfl) (it.l eb.l) (.cons ((W.up (eb.trans F.keep)).res rfl rfl .range rfl) rfl .nil)

theorem res_comp {scope : Scope} {cl : List (Str × Addr)} {C : Addr} {env : Env} {h H : Heap} {x : Str} {v : Value} (r : Res env h x v) (e : Ext h H) (hke : env.kindOf x = some .cell) (hk : (compEnvC scope cl C env).kindOf x = some .cell) (hl : cl.lookup x = env.cells.lookup x) :
    Res (compEnvC scope cl C env) H x v := by
  rcases r with ⟨k, _⟩ | ⟨_, c, l, i⟩ | ⟨k, _⟩
  · rw [hke] at k; cases k
  · exact .inr (.inl ⟨.inl hk, c, by show cl.lookup x = _; rw [hl]; exact l, i.keeps e⟩)
  · rw [hke] at k; cases k
theorem Named.val {env : Env} {b h : Heap} {ρ : Rho} {x : Str} {v : Value} (r : Res env h x v) (n : Named env b h ρ) : Named env b h ((x, .val v) :: ρ) := .cons r rfl n
theorem Named.vars' {env : Env} {h : Heap} {ρ : Rho} (n : Named env h h ρ) (k : env.scope.kind = .function) : Vars env h ρ := ⟨k, n.vars⟩
theorem with_vars {e : PySem.Expr} {P : Value → Heap → Prop} {env : Env} {ρ : Rho} (V : Vars env h ρ) (k : Vars env h ρ → Ev prog w A h (eval e env) P) : Ev prog w A h (eval e env) P := k V
theorem with_varsF {e : PySem.Expr} {d : D} {env : Env} {ρ : Rho} (V : Vars env h ρ) (k : Vars env h ρ → EvF prog w A h (eval e env) d) : EvF prog w A h (eval e env) d := k V
theorem with_varsT {e : PySem.Expr} {b : Bool} {env : Env} {ρ : Rho} (V : Vars env h ρ) (k : Vars env h ρ → Te prog w A env h e b) : Te prog w A env h e b := k V
end

def number (rows : List (List Int)) (p : List Int) : Int := ((List.range p.length).map fun i => (rows.getD (p.length - i) []).getD (p.getD i 0).toNat 0).sum
def numOk (rows : List (List Int)) (p : List Int) : Prop := (∀ i, i < p.length → 0 ≤ p.getD i 0 ∧ p.getD i 0 < (rows.getD (p.length - i) []).length) ∧
  ∀ j, j < p.length → InLong (((List.range p.length).map fun i => (rows.getD (p.length - i) []).getD (p.getD i 0).toNat 0).getD j 0) ∧ InLong ((((List.range p.length).map fun i => (rows.getD (p.length - i) []).getD (p.getD i 0).toNat 0).take (j + 1)).sum)

section
variable {prog : Program} {w : World} {A : Around} {a : Ad} {b : Heap} {s : Shared} {L : Addr} {q : Str} {fo : Option Addr} {cd : Value} {rows : List (List Int)} {p : List Int}
abbrev EN (L : Addr) (q : Str) (fo : Option Addr) (cd : Value) : Env := EnvF (dScope (defAt 5)) L (cellsFrom (L + 1) (dScope (defAt 5)).names []) q fo cd
theorem walk_number (W : Wd a b) (R : Room 1 A) (F : Fm b (EN L q fo cd) [] s.heap) (V : VarsB (EN L q fo cd) b s.heap [("rows", .zss rows), ("picked", .zs p), ("sum", .val (.builtin "sum")), ("range", .val (.type "range")), ("len", .val (.builtin "len"))])
    (hk : p.length < rows.length) (hk' : p.length ≤ 10) (hr : rows.length ≤ 100) (hrow : ∀ r ∈ rows, r.length ≤ 100) (ok : numOk rows p) :
    Walk prog w A b (EN L q fo cd) (dBody (defAt 5)) s fun v h' => Is (.int (number rows p)) v h' := by
  intro E
  have V0 := V.vars F
  have hn : ((p.length : Int) - 0).toNat = p.length := by omega
  refine st_ret (P := Is (.int (number rows p))) (ev_call1 (d1 := .zs ((List.range p.length).map fun i => (rows.getD (p.length - i) []).getD (p.getD i 0).toNat 0)) (by walk_at "ev") (.builtin _)
    ((ev_comp1 (d := .range 0 p.length 1) (n := p.length) (items := fun i => .int (0 + (i : Int) * 1)) (fun i => .int ((rows.getD (p.length - i) []).getD (p.getD i 0).toNat 0)) (fun _ => true) R.hand
      (ev_call1 (d1 := .int p.length) (by walk_at "ev") (.type _) (ev_len1 (by walk_at "ev") (by walk_at "ev") (by omega)) (fun h' v e i => ev_range1 i)) (hn ▸ src_up (by decide) (by decide) (by omega) (by omega)) (by omega) (fun _ _ => trivial) rfl (by decide +kernel) rfl (by decide +kernel) rfl ?body).mono fun v h' e x => by
        have := picked_zs x
        rwa [List.filter_eq_self.mpr (by simp)] at this)
    (fun h' v e i => ev_sum i R.hand (by simpa using ok.2))) fun v h' tk k i => ⟨v, h', tk, rfl, rfl, F.keep.trans k, i⟩
  case body =>
    intro C i v H m hi e hm hx hv
    obtain ⟨vr, rr, ir⟩ := V0.2 "rows" _ rfl
    obtain ⟨vp, rp, ip⟩ := V0.2 "picked" _ rfl
    refine ⟨tests_nil, fun _ => EvF.ofInt ?_⟩
    have hi0 : (0 + (i : Int) * 1) = (i : Nat) := by omega
    rw [hi0] at hv
    refine with_vars (Named.vars' (.cons (.inl ⟨rfl, m, hm, hx⟩) hv (.cons (res_comp rr e rfl rfl rfl) (ir.l e.l) (.cons (res_comp rp e rfl rfl rfl) (ip.l e.l) (.val ((W.up (F.keep.trans e)).res rfl rfl .len rfl) .nil)))) rfl) fun VC => ?_
    obtain ⟨ok1, ok2⟩ := ok.1 i hi
    have hki : ((p.length : Int) - (i : Nat)) = ((p.length - i : Nat) : Int) := by omega
    have hrl : (rows.getD (p.length - i) []).length ≤ 100 := hrow _ (by rw [List.getD, List.getElem?_eq_getElem (by omega)]; exact List.getElem_mem _)
    exact ev_item (ev_eq (ev_itemL (k := (p.length - i : Nat)) (by walk_at "ev") (ev_eq (ev_sub (ev_len1 (by walk_at "ev") (by walk_at "ev") (by omega)) (by walk_at "ev")) (congrArg D.int hki)) (by omega) (by omega) (by omega)) (by rw [Int.toNat_natCast]))
      (ev_eq (ev_item (k := (i : Nat)) (by walk_at "ev") (by walk_at "ev") (by omega) (by omega) (by omega)) (by rw [Int.toNat_natCast])) ok1 ok2 (by omega)

theorem cells2 {h : Heap} {cm : Str → Option Value} {cs : List (Str × Addr)} {env : Env} (hc : ∀ n c, cs.lookup n = some c → h.IsCell c (cm n)) (he : env.cells = cs) {x : Str} {c : Addr} {v : Value} (hk : env.kindOf x = some .cell) (hl : cs.lookup x = some c) (hv : cm x = some v) : Res env h x v :=
  .inr (.inl ⟨.inl hk, c, by rw [he]; exact hl, hv ▸ hc x c hl⟩)
theorem ev_number {vr vp : Value} {h : Heap} (W : Wd a h) (R : Room 2 A) (ir : Is (.zss rows) vr h) (ip : Is (.zs p) vp h) (hk : p.length < rows.length) (hk' : p.length ≤ 10) (hr : rows.length ≤ 100) (hrow : ∀ r ∈ rows, r.length ≤ 100) (ok : numOk rows p) :
    Ev prog w A h (call (.ref a.N) [vr, vp]) (Is (.int (number rows p))) := by
  refine Ev.of fun s Q e q => ?_
  refine call_cells_ (P := fun b v h' => Is (.int (number rows p)) v h') W.base W.fN rfl (by have := R.depth; omega) (kindsX rfl) rfl rfl rfl (fun b s L qq fo cd eb hns hc F => ?_) s Q _ e q
  refine walk_number (W.up eb) (R.deeper _) F (Named.vars ?_) hk hk' hr hrow ok
  refine .cons (cells2 hc rfl rfl rfl rfl) (ir.l eb.l) (.cons (cells2 hc rfl rfl rfl rfl) (ip.l eb.l) (.val ((W.up (eb.trans F.keep)).res rfl rfl .sum rfl) (.val ((W.up (eb.trans F.keep)).res rfl rfl .range rfl) (.val ((W.up (eb.trans F.keep)).res rfl rfl .len rfl) .nil))))
end
end Mine
end

section -- WkO
open PySem PySem.W PyProof.Rows PySem.Calls
set_option Elab.async false
set_option maxRecDepth 100000
set_option maxHeartbeats 2000000
set_option linter.unusedVariables false
namespace Mine
local macro_rules | `(tactic| walk_at "ev") => `(tactic| first
  | exact ev_int
  | exact ev_none
  | exact ev_name (by assumption) rfl rfl rfl
  | (apply ev_add <;> first | (with_unfolding_all rfl) | walk_at "ev")
  | (apply ev_sub <;> first | (with_unfolding_all rfl) | walk_at "ev")
  | (apply te_lt <;> first | (with_unfolding_all rfl) | walk_at "ev")
  | (apply te_le <;> first | (with_unfolding_all rfl) | walk_at "ev")
  | (apply te_gt <;> first | (with_unfolding_all rfl) | walk_at "ev")
  | (apply te_ge <;> first | (with_unfolding_all rfl) | walk_at "ev")
  | (apply te_eqI <;> first | (with_unfolding_all rfl) | walk_at "ev")
  | (apply te_neI <;> first | (with_unfolding_all rfl) | walk_at "ev"))
local macro_rules | `(tactic| walk_at "sub") => `(tactic| repeat' (first | exact List.forall_mem_nil _ | refine List.forall_mem_cons.mpr ⟨rfl, ?_⟩))

def bdB (rows : List (List Int)) (k : Nat) (m : Int) : Nat → Int
  | 0 => 0
  | j + 1 => bdB rows k m j + (rows.getD (k - j - 1) []).getD (thA rows k m j).toNat 0
def bdT (rows : List (List Int)) (k : Nat) (m : Int) : Nat → Int
  | 0 => ((rows.getD 0 []).length : Int)
  | j + 1 => thA rows k m j
/-- the turns go through, and after J of them nothing is left -/
def bdOk (rows : List (List Int)) (k : Nat) (m : Int) (J : Nat) : Prop :=
  (∀ j, j < J → 0 < thN rows k m j ∧ j < k ∧ thA rows k m j < bdT rows k m j ∧ ((k - j : Nat) : Int) ≤ thA rows k m j ∧ thA rows k m j < (rows.getD (k - j) []).length ∧ thA rows k m j < (rows.getD (k - j - 1) []).length) ∧ thN rows k m J ≤ 0

section
variable {prog : Program} {w : World} {A : Around} {a : Ad} {b : Heap} {s : Shared} {L : Addr} {q : Str} {fo : Option Addr} {cd : Value} {rows : List (List Int)} {k J : Nat} {m : Int}
abbrev rO (rows : List (List Int)) (k : Nat) (m : Int) (a : Ad) (j : Nat) : Rho := [("m", .int (thN rows k m j)), ("bound", .int (bdB rows k m j)), ("size", .int (k - j)), ("top", .int (bdT rows k m j)), ("rows", .zss rows), ("bisect_right", .val (.ref a.B)), ("len", .val (.builtin "len"))]

theorem walk_bound (W : Wd a b) (R : Room 1 A) (F : Fm b (EnvF (dScope (defAt 7)) L [] q fo cd) [] s.heap) (V : VarsB (EnvF (dScope (defAt 7)) L [] q fo cd) b s.heap [("m", .int m), ("k", .int k), ("rows", .zss rows), ("bisect_right", .val (.ref a.B)), ("len", .val (.builtin "len"))])
    (hk : k < rows.length) (hk' : k ≤ 10) (hr : rows.length ≤ 100) (hrow : ∀ r ∈ rows, r.length ≤ 100) (hJ : J ≤ k) (ok : bdOk rows k m J) :
    Walk prog w A b (EnvF (dScope (defAt 7)) L [] q fo cd) (dBody (defAt 7)) s fun v h' => Is (.int (bdB rows k m J)) v h' := by
  intro E
  have rl : ∀ i, i < rows.length → (rows.getD i []).length ≤ 100 := fun i hi => hrow _ (by rw [List.getD, List.getElem?_eq_getElem hi]; exact List.getElem_mem _)
  have V0 := V.vars F
  refine st_assignS (d := .int 0) F V (.inl rfl) trivial (by walk_at "ev") rfl fun h₁ t₁ F₁ V₁ _ c₁ => ?_
  have V1 := V₁.vars F₁
  refine st_assignS (s := { s with heap := h₁, toks := t₁ }) (d := .int (rows.getD 0 []).length) F₁ V₁ (.inl rfl) trivial (ev_len1 (by walk_at "ev") (ev_itemL (k := ((0 : Nat) : Int)) (by walk_at "ev") (by walk_at "ev") (by omega) (by omega) (by omega)) (Nat.le_trans (rl 0 (by omega)) (by omega))) rfl fun h₂ t₂ F₂ V₂ _ c₂ => ?_
  have V2 := V₂.vars F₂
  refine st_assignS (s := { s with heap := h₂, toks := t₂ }) (d := .int k) F₂ V₂ (.inl rfl) trivial (by walk_at "ev") rfl fun h₃ t₃ F₃ V₃ _ c₃ => ?_
  refine st_while (s := { s with heap := h₃, toks := t₃ }) (σ := Nat) (fun j => j ≤ J) (fun j => J - j) (fun j => decide (0 < thN rows k m j)) (rO rows k m a) 0 F₃ (V₃.sub (by
      refine List.forall_mem_cons.mpr ⟨rfl, List.forall_mem_cons.mpr ⟨rfl, List.forall_mem_cons.mpr ⟨?_, ?_⟩⟩⟩
      · show _ = some (D.int ((k : Int) - ((0 : Nat) : Int))); rw [show (k : Int) - ((0 : Nat) : Int) = k by omega]; rfl
      · walk_at "sub")) (Nat.zero_le _) ?test ?turn ?done
  case test =>
    intro j h I F V
    have V' := V.vars F
    exact te_gt (a := thN rows k m j) (b := 0) (by walk_at "ev") (by walk_at "ev")
  case turn =>
    intro j h tk E' I hβ F V
    have hpos : 0 < thN rows k m j := of_decide_eq_true hβ
    have hj : j < J := by
      rcases Nat.lt_or_ge j J with z | z
      · exact z
      · have : j = J := by omega
        subst this
        have := ok.2; omega
    obtain ⟨o1, o2, o3, o4, o5, o6⟩ := ok.1 j hj
    have hkj : ((k : Int) - (j : Int)) = ((k - j : Nat) : Int) := by omega
    have V : VarsB _ b h (("size", .int ((k - j : Nat) : Int)) :: rO rows k m a j) := fun x d l => V x d (by
      rcases lookup_cons_ne l with ⟨rfl, rfl⟩ | ⟨_, l⟩
      · rw [← hkj]; rfl
      · exact l)
    have V' := V.vars F
    refine st_if (s := { s with heap := h, toks := tk }) (β := false) (te_eq (te_eqI (a := ((k - j : Nat) : Int)) (b := 0) (by walk_at "ev") (by walk_at "ev")) (by simp; omega)) (fun z => nomatch z) fun _ h₁ t₁ k₁ => wpAny_execs_nil ?_
    dsimp only
    have F₁ := F.up k₁; have V₁ := V.up k₁; have V1 := V₁.vars F₁
    refine st_assignS (s := { s with heap := h₁, toks := t₁ }) (d := .int (thA rows k m j)) F₁ V₁ (.inl rfl) trivial (ev_sub (a := (bis (rows.getD (k - j) []) (thN rows k m j) : Int)) (b := 1) ?call (by walk_at "ev")) rfl fun h₂ t₂ F₂ V₂ l₂ c₂ => ?_
    case call =>
      refine ev_call2 (d1 := .zs (rows.getD (k - j) [])) (d2 := .int (thN rows k m j)) (by walk_at "ev") ?_ (ev_eq (ev_itemL (k := (k - j : Nat)) (by walk_at "ev") (by walk_at "ev") (by omega) (by omega) (by omega)) (by rw [Int.toNat_natCast])) (by walk_at "ev") (fun h' v u e i j' => (evF_bis (W.up (F₁.keep.trans e)) R i j' (Nat.le_trans (rl _ (by omega)) (by omega))).ev)
      obtain ⟨t, f⟩ := (W.up F₁.keep).fB
      exact f.callee
    have V2 := V₂.vars F₂
    refine st_if (s := { s with heap := h₂, toks := t₂ }) (β := false) (te_eq (te_or_cons (a := decide (bdT rows k m j ≤ thA rows k m j)) (b := decide (thA rows k m j < ((k - j : Nat) : Int)) || false) (by walk_at "ev") fun _ => te_or_cons (by walk_at "ev") fun _ => te_or_nil) (by
      rw [decide_eq_false (by omega), decide_eq_false (by omega)]; rfl)) (fun z => nomatch z) fun _ h₃ t₃ k₃ => wpAny_execs_nil ?_
    dsimp only
    have F₃ := F₂.up k₃; have V₃ := V₂.up k₃; have V3 := V₃.vars F₃
    have hk1 : (((k - j : Nat) : Int) - 1) = ((k - j - 1 : Nat) : Int) := by omega
    refine st_augAdd (s := { s with heap := h₃, toks := t₃ }) (i := bdB rows k m j) F₃ V₃ (.inl rfl) rfl
      (ev_item (k := thA rows k m j) (ev_eq (ev_itemL (k := (k - j - 1 : Nat)) (by walk_at "ev") (ev_eq (by walk_at "ev") (congrArg D.int hk1)) (by omega) (by omega) (by omega)) (by rw [Int.toNat_natCast])) (by walk_at "ev") (by omega) o6 (Nat.lt_of_le_of_lt (rl _ (by omega)) (by omega))) rfl rfl fun h₄ t₄ F₄ V₄ l₄ c₄ => ?_
    have V4 := V₄.vars F₄
    refine st_assignS (s := { s with heap := h₄, toks := t₄ }) (d := .int (thN rows k m (j + 1))) F₄ V₄ (.inl rfl) trivial (by
      rw [thN_succ]
      exact ev_sub (by walk_at "ev") (ev_item (k := thA rows k m j) (ev_eq (ev_itemL (k := (k - j : Nat)) (by walk_at "ev") (by walk_at "ev") (by omega) (by omega) (by omega)) (by rw [Int.toNat_natCast])) (by walk_at "ev") (by omega) o5 (Nat.lt_of_le_of_lt (rl _ (by omega)) (by omega)))) rfl fun h₅ t₅ F₅ V₅ l₅ c₅ => ?_
    have V5 := V₅.vars F₅
    refine st_assignS (s := { s with heap := h₅, toks := t₅ }) (d := .int (thA rows k m j)) F₅ V₅ (.inl rfl) trivial (by walk_at "ev") rfl fun h₆ t₆ F₆ V₆ l₆ c₆ => ?_
    have V6 := V₆.vars F₆
    refine st_augSub (s := { s with heap := h₆, toks := t₆ }) (i := ((k - j : Nat) : Int)) (j := 1) F₆ V₆ (.inl rfl) rfl (by walk_at "ev") rfl rfl fun h₇ t₇ F₇ V₇ l₇ c₇ => wpAny_execs_nil ?_
    refine ⟨j + 1, h₇, t₇, rfl, hj, by omega, F₇, V₇.sub ?_, k₁.chg.trans (c₂.trans (k₃.chg.trans (c₄.trans (c₅.trans (c₆.trans c₇)))))⟩
    refine List.forall_mem_cons.mpr ⟨rfl, List.forall_mem_cons.mpr ⟨rfl, List.forall_mem_cons.mpr ⟨?_, ?_⟩⟩⟩
    · show some _ = some _
      congr 2
      omega
    · walk_at "sub"
  case done =>
    intro j h' tk I hβ F V c
    have hj : j = J := by
      rcases Nat.lt_or_ge j J with z | z
      · have := (ok.1 j z).1
        have := of_decide_eq_false hβ; omega
      · omega
    subst hj
    have V' := V.vars F
    refine st_ret (s := { s with heap := h', toks := tk }) (P := Is (.int (bdB rows k m j))) (by walk_at "ev") fun v h₂ t₂ k₂ p₂ => ?_
    exact ⟨v, h₂, t₂, rfl, rfl, F.keep.trans k₂, p₂⟩

theorem ev_bound {vr vk vm : Value} {h : Heap} (W : Wd a h) (R : Room 2 A) (ir : Is (.zss rows) vr h) (ik : Is (.int k) vk h) (im : Is (.int m) vm h) (hk : k < rows.length) (hk' : k ≤ 10) (hr : rows.length ≤ 100) (hrow : ∀ r ∈ rows, r.length ≤ 100) (hJ : J ≤ k) (ok : bdOk rows k m J) :
    Ev prog w A h (call (.ref a.O) [vr, vk, vm]) (Is (.int (bdB rows k m J))) := by
  refine Ev.of fun s Q e q => ?_
  refine call_plain_ (P := fun b v h' => Is (.int (bdB rows k m J)) v h') W.base W.fO rfl (by have := R.depth; omega) (by decide +kernel) (locs rfl) rfl rfl rfl (fun b s L qq fo cd eb hns F => ?_) s Q _ e q
  have res : ∀ x v, (dScope (defAt 7)).names.lookup x = some .local → (bindZ ["rows", "k", "m"] [vr, vk, vm]).reverse.lookup x = some v → Res (EnvF (dScope (defAt 7)) L [] qq fo cd) s.heap x v := fun x v h1 h2 => .inl ⟨h1, _, hns, h2⟩
  refine walk_bound (W.up eb) (R.deeper _) F (Named.vars ?_) hk hk' hr hrow hJ ok
  exact .cons (res _ _ rfl rfl) (im.l eb.l) (.cons (res _ _ rfl rfl) (ik.l eb.l) (.cons (res _ _ rfl rfl) (ir.l eb.l) (.val ((W.up (eb.trans F.keep)).res rfl rfl .B rfl) (.val ((W.up (eb.trans F.keep)).res rfl rfl .len rfl) .nil))))
end
end Mine
end

section -- Lc
open PySem PySem.W PyProof.Rows PySem.Calls PySem.SeqAt
open AutoSeq1 (wpAny_loadPart')
open MeetsSeq MeetsSeq2 MeetsSeq3 SeqRoads2
set_option Elab.async false
set_option maxRecDepth 100000
set_option maxHeartbeats 4000000
set_option linter.unusedVariables false
namespace Mine

def lexLt : List Int → List Int → Bool
  | [], [] => false
  | [], _ :: _ => true
  | _ :: _, [] => false
  | x :: xs, y :: ys => if x = y then lexLt xs ys else decide (x < y)

inductive LtGe : CmpOp → Int → (Bool → Bool) → Prop
  | lt : LtGe .Lt 0 id
  | ge : LtGe .GtE 5 not

theorem rich_int {prog : Program} {w : World} {A : Around} {E : Value → Shared → Prop} {s : Shared} {op : CmpOp} {c : Int} {f : Bool → Bool} (x : LtGe op c f) {a b : Int} {t u : Tok} {Q : Value → Shared → Prop} (h : Q (.bool (f (decide (a < b)))) s) :
    wpAny (model prog w) A (richCompare op (.int a t) (.int b u)) Q E s := by
  cases x with
  | lt => exact lt_int h
  | ge => exact ge_int (by
      have e : decide (b ≤ a) = !decide (a < b) := by by_cases h : a < b <;> simp [h] <;> omega
      rw [e]; exact h)

theorem list_loop_ints {op : CmpOp} {c : Int} {f : Bool → Bool} (x : LtGe op c f) (l b : Addr) (n n2 : Nat) (dd dd2 : Option Addr) (sl sl2 : Array (Option Value)) (vs us : List Value) (as bs : List Int) (hi : IntsAre vs as) (hj : IntsAre us bs) (k : Nat) :
    ∀ i : Nat, vs.length - i = k → i ≤ vs.length → i ≤ us.length → Meets (Builtin.«list.__eq__.loop» ⟨[.ref l, .ref b, rawInt i, rawInt c], []⟩)
      (fun A R s => s.heap.get? l = some { cls := .type "list", dict := dd, data := .seq vs.toArray n, slots := sl } ∧ s.heap.get? b = some { cls := .type "list", dict := dd2, data := .seq us.toArray n2, slots := sl2 } ∧
        R (.ok (.ret (.bool (f (lexLt (as.drop i) (bs.drop i)))))) s) := by
  have la := hi.length
  have lb := hj.length
  have stop1 : ∀ i, i = vs.length → i ≤ us.length → f (lexLt (as.drop i) (bs.drop i)) = f (decide (vs.length < us.length)) := fun i h1 h2 => by
    have da : as.drop i = [] := List.drop_eq_nil_of_le (by omega)
    rw [da]
    congr 1
    by_cases q : us.length = i
    · rw [List.drop_eq_nil_of_le (by omega), decide_eq_false (by omega)]; rfl
    · obtain ⟨y, r, hr⟩ : ∃ y r, bs.drop i = y :: r := by
        cases e : bs.drop i with
        | nil => have := congrArg List.length e; rw [List.length_drop] at this; simp at this; omega
        | cons y r => exact ⟨y, r, rfl⟩
      rw [hr, decide_eq_true (by omega)]; rfl
  have stop2 : ∀ i, i < vs.length → i = us.length → f (lexLt (as.drop i) (bs.drop i)) = f (decide (vs.length < us.length)) := fun i h1 h2 => by
    have db : bs.drop i = [] := List.drop_eq_nil_of_le (by omega)
    rw [db, decide_eq_false (by omega)]
    obtain ⟨y, r, hr⟩ : ∃ y r, as.drop i = y :: r := by
      cases e : as.drop i with
      | nil => have := congrArg List.length e; rw [List.length_drop] at this; simp at this; omega
      | cons y r => exact ⟨y, r, rfl⟩
    rw [hr]; rfl
  have hge : decide (vs.toArray.size ≥ us.toArray.size) = !decide (vs.length < us.length) := by
    simp only [List.size_toArray]
    by_cases q : vs.length < us.length
    · rw [decide_eq_true q, decide_eq_false (by omega)]; rfl
    · rw [decide_eq_false q, decide_eq_true (by omega)]; rfl
  induction k with
  | zero =>
    intro i hk h1 h2 prog w A R s h
    obtain ⟨hp, g, d, tk, os⟩ := s; obtain ⟨hl, hb, h⟩ := h
    rw [stop1 i (by omega) h2] at h
    have hi1 : vs.toArray[((i : Nat) : Int).toNat]? = none := by simp; omega
    cases x with
    | lt =>
      wp_walk using wpAny_loadPart' hl, wpAny_loadPart' hb
      rw [hi1]
      wp_walk using wpAny_loadPart' hl, wpAny_loadPart' hb
      show R (.ok (.ret (.bool (decide (vs.toArray.size < us.toArray.size))))) _
      simpa using h
    | ge =>
      wp_walk using wpAny_loadPart' hl, wpAny_loadPart' hb
      rw [hi1]
      wp_walk using wpAny_loadPart' hl, wpAny_loadPart' hb
      show R (.ok (.ret (.bool (decide (vs.toArray.size ≥ us.toArray.size))))) _
      rw [hge]; exact h
  | succ k ih =>
    intro i hk h1 h2 prog w A R s h
    obtain ⟨hp, g, d, tk, os⟩ := s; obtain ⟨hl, hb, h⟩ := h
    have hlt : i < vs.length := by omega
    obtain ⟨t, ht⟩ := intsAre_get hi (k := i) (by omega)
    have hi1 : vs.toArray[((i : Nat) : Int).toNat]? = some (.int (as.getD i 0) t) := by simpa using ht
    by_cases q : i < us.length
    · obtain ⟨u, hu⟩ := intsAre_get hj (k := i) (by omega)
      have hi2 : us.toArray[((i : Nat) : Int).toNat]? = some (.int (bs.getD i 0) u) := by simpa using hu
      have hc : ((i : Int) + 1) = ((i + 1 : Nat) : Int) := by push_cast; rfl
      have da : as.drop i = as.getD i 0 :: as.drop (i + 1) := by
        rw [List.drop_eq_getElem_cons (by omega)]; simp [List.getD, show i < as.length by omega]
      have db : bs.drop i = bs.getD i 0 :: bs.drop (i + 1) := by
        rw [List.drop_eq_getElem_cons (by omega)]; simp [List.getD, show i < bs.length by omega]
      rw [da, db, lexLt] at h
      by_cases e : as.getD i 0 = bs.getD i 0
      · rw [if_pos e] at h
        have go : codeAny (model prog w) A (.builtin "list.__eq__.loop" ⟨[.ref l, .ref b, rawInt ((i + 1 : Nat) : Int), rawInt c], []⟩) R ⟨hp, g, d, tk, os⟩ := codeAny_builtin entry_eq_loop (by
          rw [Around.under_plainId plain_eq_loop _]
          exact ih (i + 1) (by omega) (by omega) (by omega) prog w A R _ ⟨hl, hb, h⟩)
        cases x with
        | lt =>
          wp_walk using wpAny_loadPart' hl, wpAny_loadPart' hb
          rw [hi1, hi2]
          refine wpAny_bind (EqAt.int_int _ _ _ _ prog w _ _ ?_)
          rw [beq_iff_eq.mpr e]
          wp_walk
          rw [hc]
          exact ⟨plainId_quiet plain_eq_loop _, go⟩
        | ge =>
          wp_walk using wpAny_loadPart' hl, wpAny_loadPart' hb
          rw [hi1, hi2]
          refine wpAny_bind (EqAt.int_int _ _ _ _ prog w _ _ ?_)
          rw [beq_iff_eq.mpr e]
          wp_walk
          rw [hc]
          exact ⟨plainId_quiet plain_eq_loop _, go⟩
      · rw [if_neg e] at h
        cases x with
        | lt =>
          wp_walk using wpAny_loadPart' hl, wpAny_loadPart' hb
          rw [hi1, hi2]
          refine wpAny_bind (EqAt.int_int _ _ _ _ prog w _ _ ?_)
          rw [beq_eq_false_iff_ne.mpr e]
          wp_walk using wpAny_loadPart' hl, wpAny_loadPart' hb
          rw [hi1, hi2]
          refine wpAny_bind (rich_int .lt ?_)
          wp_walk
          exact h
        | ge =>
          wp_walk using wpAny_loadPart' hl, wpAny_loadPart' hb
          rw [hi1, hi2]
          refine wpAny_bind (EqAt.int_int _ _ _ _ prog w _ _ ?_)
          rw [beq_eq_false_iff_ne.mpr e]
          wp_walk using wpAny_loadPart' hl, wpAny_loadPart' hb
          rw [hi1, hi2]
          refine wpAny_bind (rich_int .ge ?_)
          wp_walk
          exact h
    · rw [stop2 i hlt (by omega)] at h
      have hi2 : us.toArray[((i : Nat) : Int).toNat]? = none := by simp; omega
      cases x with
      | lt =>
        wp_walk using wpAny_loadPart' hl, wpAny_loadPart' hb
        rw [hi1, hi2]
        wp_walk using wpAny_loadPart' hl, wpAny_loadPart' hb
        show R (.ok (.ret (.bool (decide (vs.toArray.size < us.toArray.size))))) _
        simpa using h
      | ge =>
        wp_walk using wpAny_loadPart' hl, wpAny_loadPart' hb
        rw [hi1, hi2]
        wp_walk using wpAny_loadPart' hl, wpAny_loadPart' hb
        show R (.ok (.ret (.bool (decide (vs.toArray.size ≥ us.toArray.size))))) _
        rw [hge]; exact h
end Mine
end

section -- Lc2
open PySem PySem.W PyProof.Rows PySem.Calls PySem.SeqAt
open AutoSeq1 (wpAny_loadPart')
open MeetsSeq MeetsSeq2 MeetsSeq3 SeqRoads2
set_option Elab.async false
set_option maxRecDepth 100000
set_option maxHeartbeats 4000000
set_option linter.unusedVariables false
namespace Mine
theorem list_lt_meets (l b : Addr) (n n2 : Nat) (dd dd2 : Option Addr) (sl sl2 : Array (Option Value)) (vs us : List Value) (as bs : List Int) (hi : IntsAre vs as) (hj : IntsAre us bs) :
    Meets (Builtin.«list.__lt__» ⟨[.ref l, .ref b], []⟩)
      (fun A R s => s.heap.get? l = some { cls := .type "list", dict := dd, data := .seq vs.toArray n, slots := sl } ∧ s.heap.get? b = some { cls := .type "list", dict := dd2, data := .seq us.toArray n2, slots := sl2 } ∧
        R (.ok (.ret (.bool (lexLt as bs)))) s) := by
  intro prog w A R s h
  have go := list_loop_ints .lt l b n n2 dd dd2 sl sl2 vs us as bs hi hj _ 0 rfl (Nat.zero_le _) (Nat.zero_le _) prog w A R s (by simpa using h)
  obtain ⟨hp, g, d, tk, os⟩ := s; obtain ⟨hl, hb, h⟩ := h
  have f3 := AutoSeq1.sub_list_list
  wp_walk using wpAny_loadPart' hl, wpAny_loadPart' hb
  exact ⟨plainId_quiet plain_eq_loop _, codeAny_builtin entry_eq_loop (by
    rw [Around.under_plainId plain_eq_loop _]
    exact go)⟩
theorem list_ge_meets (l b : Addr) (n n2 : Nat) (dd dd2 : Option Addr) (sl sl2 : Array (Option Value)) (vs us : List Value) (as bs : List Int) (hi : IntsAre vs as) (hj : IntsAre us bs) :
    Meets (Builtin.«list.__ge__» ⟨[.ref l, .ref b], []⟩)
      (fun A R s => s.heap.get? l = some { cls := .type "list", dict := dd, data := .seq vs.toArray n, slots := sl } ∧ s.heap.get? b = some { cls := .type "list", dict := dd2, data := .seq us.toArray n2, slots := sl2 } ∧
        R (.ok (.ret (.bool (!lexLt as bs)))) s) := by
  intro prog w A R s h
  have go := list_loop_ints .ge l b n n2 dd dd2 sl sl2 vs us as bs hi hj _ 0 rfl (Nat.zero_le _) (Nat.zero_le _) prog w A R s (by simpa using h)
  obtain ⟨hp, g, d, tk, os⟩ := s; obtain ⟨hl, hb, h⟩ := h
  have f3 := AutoSeq1.sub_list_list
  wp_walk using wpAny_loadPart' hl, wpAny_loadPart' hb
  exact ⟨plainId_quiet plain_eq_loop _, codeAny_builtin entry_eq_loop (by
    rw [Around.under_plainId plain_eq_loop _]
    exact go)⟩

section
variable {prog : Program} {w : World} {A : Around} {E : Value → Shared → Prop} {s : Shared} {h : Heap} {env : Env}
theorem oneLt_lists {u v : Value} {as bs : List Int} {Q : Bool → Shared → Prop} (hu : A.units < cLine) (x : IsInts s.heap u as) (y : IsInts s.heap v bs) (q : Q (lexLt as bs) s) : wpAny (model prog w) A (oneLt' true u v) Q E s := by
  obtain ⟨a, vs, rfl, ⟨⟨cls, dd, data, sl⟩, ho, hc, n, hd⟩, hi⟩ := x
  obtain ⟨b, us, rfl, ⟨⟨cls2, dd2, data2, sl2⟩, ho2, hc2, n2, hd2⟩, hj⟩ := y
  simp only at hc hd hc2 hd2
  subst hc hd hc2 hd2
  rw [oneLt'_eq]
  simp only [if_true]
  refine wpAny_bind (wpAny_cRoomFor hu ?_)
  refine wpAny_bind (wpAny_callSpecialIfBound?_slot (T := "list") ⟨_, ho, rfl⟩ PySem.F.slot_list_lt (call_meets PySem.F.slot_list_lt ⟨_, ho, rfl⟩ PySem.F.entry_list_lt (PySem.F.args_list_lt_2 _ _) (list_lt_meets a b n n2 dd dd2 sl sl2 vs us as bs hi hj) ⟨ho, ho2, ?_⟩))
  exact wpAny_truthy_bool q
theorem cmp_geZ {h' : Heap} {as bs : List Int} {u v : Value} (p : Is (.zs as) u h') (p' : Is (.zs bs) v h') (hu : A.units + 64 < cLine) : Ev prog w A h' (compareOp .GtE u v) (Is (.bool (!lexLt as bs))) := by
  obtain ⟨a, vs, rfl, ⟨⟨cls, dd, data, sl⟩, ho, hc, n, hd⟩, hi⟩ := p
  obtain ⟨b, us, rfl, ⟨⟨cls2, dd2, data2, sl2⟩, ho2, hc2, n2, hd2⟩, hj⟩ := p'
  simp only at hc hd hc2 hd2
  subst hc hd hc2 hd2
  refine Ev.of fun s Q e q => ?_
  show wpAny (model prog w) A (richCompare .GtE (.ref a) (.ref b)) Q _ s
  exact richCompare_meets_room (T := "list") ⟨_, e _ _ ho, rfl⟩ ⟨_, e _ _ ho2, rfl⟩ PySem.F.slot_list_ge PySem.F.entry_list_ge (PySem.F.args_list_ge_2 _ _) (list_ge_meets a b n n2 dd dd2 sl sl2 vs us as bs hi hj) ⟨e _ _ ho, e _ _ ho2, (fun z => by cases z), q _ s.heap s.toks (Ext.refl _) rfl⟩ (by omega)
theorem te_geZ {l r : PySem.Expr} {pos : Pos} {as bs : List Int} (hu : A.units + 64 < cLine) (x : Ev prog w A h (eval l env) (Is (.zs as))) (y : Ev prog w A h (eval r env) (Is (.zs bs))) (hm : behindInMarks .GtE r = false := by with_unfolding_all rfl) : Te prog w A env h (.Compare l [.GtE] [r] pos) (!lexLt as bs) := te_cmp x y (fun _ _ _ _ p q => cmp_geZ p q hu) hm
end
end Mine
end

section -- So
open PySem PySem.W PyProof.Rows PySem.Calls
set_option Elab.async false
set_option maxRecDepth 100000
set_option maxHeartbeats 4000000
set_option linter.unusedVariables false
namespace Mine

def gallop' : Bool → Keyed → Array Keyed → Nat → Nat → Nat → StateT SortSt Sem (Option Nat) := sortPriv% PySem.Builtin.gallop
def mergeLo' : Array Keyed → Array Keyed → StateT SortSt Sem (Array Keyed) := sortPriv% PySem.Builtin.mergeLo
def mergeHi' : Array Keyed → Array Keyed → StateT SortSt Sem (Array Keyed) := sortPriv% PySem.Builtin.mergeHi

/-- in this state of the world each two of the things are compared by their keys -/
def Cmp (prog : Program) (w : World) (A : Around) (s : Shared) (M : Keyed → Prop) (K : Keyed → Int) : Prop :=
  ∀ x y, M x → M y → ∀ (E : Value → Shared → Prop) (Q : Bool → Shared → Prop), Q (decide (K x < K y)) s → wpAny (model prog w) A (oneLt' true x.1 y.1) Q E s

section
variable {prog : Program} {w : World} {A : Around} {E : Value → Shared → Prop} {s : Shared} {M : Keyed → Prop} {K : Keyed → Int}

theorem wpS_lt_ {st : SortSt} {x y : Keyed} {Q : Option Bool → SortSt → Prop} (C : Cmp prog w A s M K) (hk : kindOf st = oneType') (hx : M x) (hy : M y) (q : Q (some (decide (K x < K y))) st) : wpS (model prog w) A E s (lt' x y) Q st := by
  rw [lt'_eq]
  refine wpS_bind (wpS_get ?_)
  rw [hk, keyLt'_oneType]
  refine wpS_bind (wpS_lift (wpAny_attempt (C x y hx hy _ _ ⟨rfl, ?_⟩)))
  exact wpS_pure q
theorem wpS_elem_ {st : SortSt} {arr : Array Keyed} {i : Nat} {Q : Keyed → SortSt → Prop} (h : i < arr.size) (q : Q arr[i] st) : wpS (model prog w) A E s (elem' arr i) Q st := by
  rw [elem'_eq, getElem?_pos arr i h]
  exact wpS_pure q

theorem wpS_gallop_ {left : Bool} {key : Keyed} {arr : Array Keyed} {base n hint : Nat} {st : SortSt} {Q : Option Nat → SortSt → Prop} (β : Nat → Bool)
    (hβ : ∀ i, i < n → ∀ (Q : Option Bool → SortSt → Prop), Q (some (β i)) st → wpS (model prog w) A E s (do let x ← elem' arr (base + i); if left = true then lt' x key else do let r ← lt' key x; pure (Option.map (fun x => !x) r)) Q st)
    (mono : ∀ i j, i ≤ j → j < n → β j = true → β i = true) (hh : hint < n)
    (q : ∀ k, k ≤ n → (∀ i, i < k → β i = true) → (∀ i, k ≤ i → i < n → β i = false) → Q (some k) st) : wpS (model prog w) A E s (gallop' left key arr base n hint) Q st := by
  have mono' : ∀ i j, i ≤ j → j < n → β i = false → β j = false := fun i j h1 h2 h3 => by
    cases z : β j with
    | false => rfl
    | true => rw [mono i j h1 h2 z] at h3; cases h3
  -- the search by halves
  have half : ∀ lo hi, lo ≤ hi → hi ≤ n → (∀ i, i < lo → β i = true) → (∀ i, hi ≤ i → i < n → β i = false) →
      wpS (model prog w) A E s (forIn [0:n] ((none, lo, hi) : Option (Option Nat) × Nat × Nat) fun x c => if c.2.1 ≥ c.2.2 then pure (ForInStep.done (none, c.2.1, c.2.2)) else do
        let r ← (do let x ← elem' arr (base + (c.2.1 + (c.2.2 - c.2.1) / 2)); if left = true then lt' x key else do let r ← lt' key x; pure (Option.map (fun x => !x) r))
        match r with
        | some more => if more = true then pure (ForInStep.yield (none, c.2.1 + (c.2.2 - c.2.1) / 2 + 1, c.2.2)) else pure (ForInStep.yield (none, c.2.1, c.2.1 + (c.2.2 - c.2.1) / 2))
        | _ => pure (ForInStep.done (some none, c.2.1, c.2.2)))
        (fun c st' => st' = st ∧ c.1 = none ∧ c.2.2 ≤ n ∧ (∀ i, i < c.2.2 → β i = true) ∧ (∀ i, c.2.2 ≤ i → i < n → β i = false)) st := by
    intro lo hi h1 h2 h3 h4
    refine wpS_forRange (I := fun x c st' => st' = st ∧ c.1 = none ∧ c.2.1 ≤ c.2.2 ∧ c.2.2 ≤ n ∧ c.2.2 - c.2.1 ≤ n - x ∧ (∀ i, i < c.2.1 → β i = true) ∧ (∀ i, c.2.2 ≤ i → i < n → β i = false)) ?step ?fin ⟨rfl, rfl, h1, h2, by dsimp only; omega, h3, h4⟩
    case fin =>
      rintro ⟨c1, lo, hi⟩ st' ⟨rfl, g0, g1, g2, g3, g4, g5⟩
      dsimp only at g0 g1 g2 g3 g4 g5 ⊢
      have : lo = hi := by omega
      subst this
      exact ⟨rfl, g0, g2, g4, g5⟩
    case step =>
      rintro x ⟨c1, lo, hi⟩ st' _ hx ⟨rfl, g0, g1, g2, g3, g4, g5⟩
      dsimp only at g0 g1 g2 g3 g4 g5 ⊢
      by_cases hge : lo ≥ hi
      · rw [if_pos hge]
        have : lo = hi := by omega
        subst this
        exact wpS_pure ⟨rfl, rfl, g2, g4, g5⟩
      · rw [if_neg hge]
        refine wpS_bind (hβ (lo + (hi - lo) / 2) (by omega) _ ?_)
        cases hm : β (lo + (hi - lo) / 2) with
        | true =>
          refine wpS_pure ⟨rfl, rfl, by dsimp only; omega, g2, by dsimp only; omega, fun i hi' => mono i (lo + (hi - lo) / 2) (by dsimp only at hi'; omega) (by omega) hm, g5⟩
        | false =>
          refine wpS_pure ⟨rfl, rfl, by dsimp only; omega, by dsimp only; omega, by dsimp only; omega, g4, fun i h1 h2 => mono' (lo + (hi - lo) / 2) i h1 h2 hm⟩
  unfold gallop'
  k_delta "gallop"
  dsimp only
  refine wpS_bind (hβ hint hh _ ?_)
  cases hr : β hint with
  | true =>
    simp only [if_true]
    refine wpS_bind (wpS_mono (wpS_forRange (I := fun x c st' => st' = st ∧ c.1 = none ∧ x + 1 ≤ c.2.2 ∧ c.2.1 < c.2.2 ∧ hint + c.2.1 < n ∧ β (hint + c.2.1) = true)
      (Q := fun c st' => st' = st ∧ c.1 = none ∧ c.2.1 < c.2.2 ∧ hint + c.2.1 < n ∧ β (hint + c.2.1) = true ∧ (c.2.2 ≥ n - hint ∨ (hint + c.2.2 < n ∧ β (hint + c.2.2) = false))) ?step ?fin ?init) ?post)
    case init => exact ⟨rfl, rfl, Nat.le_refl _, Nat.zero_lt_one, hh, hr⟩
    case fin =>
      rintro ⟨c1, lo, of⟩ st' ⟨rfl, g0, g1, g2, g3, g4⟩
      dsimp only at g0 g1 g2 g3 g4 ⊢
      exact ⟨rfl, g0, g2, g3, g4, .inl (by omega)⟩
    case step =>
      rintro x ⟨c1, lo, of⟩ st' _ hx ⟨rfl, g0, g1, g2, g3, g4⟩
      dsimp only at g0 g1 g2 g3 g4 ⊢
      by_cases hge : of ≥ n - hint
      · rw [if_pos hge]; exact wpS_pure ⟨rfl, rfl, g2, g3, g4, .inl hge⟩
      · rw [if_neg hge]
        refine wpS_bind (hβ (hint + of) (by omega) _ ?_)
        cases hm : β (hint + of) with
        | true => exact wpS_pure ⟨rfl, rfl, by dsimp only; omega, by dsimp only; omega, by dsimp only; omega, hm⟩
        | false => exact wpS_pure ⟨rfl, rfl, g2, g3, g4, .inr ⟨by dsimp only; omega, hm⟩⟩
    case post =>
      rintro ⟨c1, lo, of⟩ st' ⟨rfl, g0, g1, g2, g3, g4⟩
      dsimp only at g0 g1 g2 g3 g4 ⊢
      subst g0
      refine wpS_bind (wpS_mono (half (hint + lo + 1) (hint + min of (n - hint)) (by omega) (by omega) (fun i hi => mono i (hint + lo) (by omega) (by omega) g3) (fun i h1 h2 => ?_)) ?_)
      · rcases g4 with g4 | ⟨g4, g5⟩
        · omega
        · exact mono' (hint + of) i (by omega) h2 g5
      · rintro ⟨c1, lo, hi⟩ st' ⟨rfl, e0, e1, e2, e3⟩
        dsimp only at e0 e1 e2 e3 ⊢
        subst e0
        exact wpS_pure (q hi e1 e2 e3)
  | false =>
    simp only [Bool.false_eq_true, if_false]
    refine wpS_bind (wpS_mono (wpS_forRange (I := fun x c st' => st' = st ∧ c.1 = none ∧ x + 1 ≤ c.2.2 ∧ c.2.1 < c.2.2 ∧ c.2.1 ≤ hint ∧ β (hint - c.2.1) = false)
      (Q := fun c st' => st' = st ∧ c.1 = none ∧ c.2.1 < c.2.2 ∧ c.2.1 ≤ hint ∧ β (hint - c.2.1) = false ∧ (c.2.2 ≥ hint + 1 ∨ (c.2.2 ≤ hint ∧ β (hint - c.2.2) = true))) ?step ?fin ?init) ?post)
    case init => exact ⟨rfl, rfl, Nat.le_refl _, Nat.zero_lt_one, Nat.zero_le _, hr⟩
    case fin =>
      rintro ⟨c1, lo, of⟩ st' ⟨rfl, g0, g1, g2, g3, g4⟩
      dsimp only at g0 g1 g2 g3 g4 ⊢
      exact ⟨rfl, g0, g2, g3, g4, .inl (by omega)⟩
    case step =>
      rintro x ⟨c1, lo, of⟩ st' _ hx ⟨rfl, g0, g1, g2, g3, g4⟩
      dsimp only at g0 g1 g2 g3 g4 ⊢
      by_cases hge : of ≥ hint + 1
      · rw [if_pos hge]; exact wpS_pure ⟨rfl, rfl, g2, g3, g4, .inl hge⟩
      · rw [if_neg hge]
        refine wpS_bind (hβ (hint - of) (by omega) _ ?_)
        cases hm : β (hint - of) with
        | true => exact wpS_pure ⟨rfl, rfl, g2, g3, g4, .inr ⟨by dsimp only; omega, hm⟩⟩
        | false => exact wpS_pure ⟨rfl, rfl, by dsimp only; omega, by dsimp only; omega, by dsimp only; omega, hm⟩
    case post =>
      rintro ⟨c1, lo, of⟩ st' ⟨rfl, g0, g1, g2, g3, g4⟩
      dsimp only at g0 g1 g2 g3 g4 ⊢
      subst g0
      refine wpS_bind (wpS_mono (half (hint + 1 - min of (hint + 1)) (hint - lo) (by omega) (by omega) (fun i hi => ?_) (fun i h1 h2 => mono' (hint - lo) i (by omega) h2 g3)) ?_)
      · rcases g4 with g4 | ⟨g4, g5⟩
        · omega
        · exact mono i (hint - of) (by omega) (by omega) g5
      · rintro ⟨c1, lo, hi⟩ st' ⟨rfl, e0, e1, e2, e3⟩
        dsimp only at e0 e1 e2 e3 ⊢
        subst e0
        exact wpS_pure (q hi e1 e2 e3)
end
end Mine
end

section -- Mg
set_option linter.unusedVariables false
set_option linter.unusedSectionVars false
namespace Mine
section
variable {α : Type} [DecidableEq α] {K : α → Int}
def Srt (K : α → Int) (l : List α) : Prop := l.Pairwise fun x y => K x ≤ K y
structure Mg (K : α → Int) (a b : Array α) (out : Array α) (ia ib : Nat) : Prop where
  ha : ia ≤ a.size
  hb : ib ≤ b.size
  perm : out.toList.Perm (a.toList.take ia ++ b.toList.take ib)
  srt : Srt K out.toList
  le : ∀ x ∈ out.toList, ∀ y ∈ a.toList.drop ia ++ b.toList.drop ib, K x ≤ K y
def Done (K : α → Int) (a b r : Array α) : Prop := r.toList.Perm (a.toList ++ b.toList) ∧ Srt K r.toList
theorem Mg.symm {a b out : Array α} {ia ib : Nat} (m : Mg K a b out ia ib) : Mg K b a out ib ia :=
  ⟨m.hb, m.ha, m.perm.trans List.perm_append_comm, m.srt, fun x hx y hy => m.le x hx y (List.mem_append.mpr (List.mem_append.mp hy).symm)⟩
theorem take_succ_ {a : Array α} {i : Nat} (h : i < a.size) : a.toList.take (i + 1) = a.toList.take i ++ [a[i]] := by
  rw [List.take_add_one]
  simp [h]
theorem drop_cons_ {a : Array α} {i : Nat} (h : i < a.size) : a.toList.drop i = a[i] :: a.toList.drop (i + 1) := by
  rw [List.drop_eq_getElem_cons (by simpa using h)]
  simp
theorem Mg.a {a b out : Array α} {ia ib : Nat} (m : Mg K a b out ia ib) (h : ia < a.size) (sa : Srt K a.toList) (hb : ∀ y ∈ b.toList.drop ib, K a[ia] ≤ K y) : Mg K a b (out.push a[ia]) (ia + 1) ib where
  ha := h
  hb := m.hb
  perm := by
    rw [Array.toList_push, take_succ_ h]
    have := m.perm
    rw [List.perm_iff_count] at this ⊢
    intro z
    have := this z
    simp only [List.count_append] at this ⊢
    omega
  srt := by
    rw [Array.toList_push]
    refine List.pairwise_append.mpr ⟨m.srt, List.pairwise_singleton _ _, fun x hx y hy => ?_⟩
    rw [List.mem_singleton.mp hy]
    exact m.le x hx _ (List.mem_append_left _ (by rw [drop_cons_ h]; exact .head _))
  le := by
    intro x hx y hy
    rw [Array.toList_push] at hx
    rcases List.mem_append.mp hx with hx | hx
    · refine m.le x hx y ?_
      rcases List.mem_append.mp hy with hy | hy
      · exact List.mem_append_left _ (by rw [drop_cons_ h]; exact .tail _ hy)
      · exact List.mem_append_right _ hy
    · rw [List.mem_singleton.mp hx]
      rcases List.mem_append.mp hy with hy | hy
      · have : Srt K (a.toList.drop ia) := List.Pairwise.drop sa
        rw [drop_cons_ h] at this
        exact (List.pairwise_cons.mp this).1 y hy
      · exact hb y hy
theorem Mg.b {a b out : Array α} {ia ib : Nat} (m : Mg K a b out ia ib) (h : ib < b.size) (sb : Srt K b.toList) (ha : ∀ y ∈ a.toList.drop ia, K b[ib] ≤ K y) : Mg K a b (out.push b[ib]) ia (ib + 1) := (m.symm.a h sb ha).symm
theorem extract_succ {a : Array α} {i k : Nat} (h : i + k < a.size) : a.extract i (i + k + 1) = (a.extract i (i + k)).push a[i + k] := by
  apply Array.ext'
  rw [Array.toList_push]
  simp only [Array.toList_extract, List.extract_eq_take_drop]
  rw [show i + k + 1 - i = k + 1 by omega, show i + k - i = k by omega, List.take_add_one]
  congr 1
  simp [h]
theorem Mg.as {a b out : Array α} {ia ib : Nat} (m : Mg K a b out ia ib) (sa : Srt K a.toList) : ∀ k, ia + k ≤ a.size → (∀ i (h : ia + i < a.size), i < k → ∀ y ∈ b.toList.drop ib, K a[ia + i] ≤ K y) → Mg K a b (out ++ a.extract ia (ia + k)) (ia + k) ib
  | 0, _, _ => by
    have : out ++ a.extract ia (ia + 0) = out := by
      rw [Nat.add_zero, Array.extract_eq_empty_of_le (by omega)]; simp
    rw [this]; exact m
  | k + 1, hk, hy => by
    have ih := Mg.as m sa k (by omega) fun i h hi => hy i h (by omega)
    rw [← Nat.add_assoc, extract_succ (by omega), ← Array.push_append]
    exact ih.a (by omega) sa (hy k (by omega) (by omega))
theorem Mg.bs {a b out : Array α} {ia ib : Nat} (m : Mg K a b out ia ib) (sb : Srt K b.toList) (k : Nat) (hk : ib + k ≤ b.size) (hy : ∀ i (h : ib + i < b.size), i < k → ∀ y ∈ a.toList.drop ia, K b[ib + i] ≤ K y) : Mg K a b (out ++ b.extract ib (ib + k)) ia (ib + k) := (m.symm.as sb k hk hy).symm
theorem extract_rest (a : Array α) (i : Nat) : (a.extract i).toList = a.toList.drop i := by
  simp only [Array.toList_extract, List.extract_eq_take_drop]
  exact List.take_of_length_le (by simp)
theorem Mg.done {a b out : Array α} {ia ib : Nat} (m : Mg K a b out ia ib) (sa : Srt K a.toList) (sb : Srt K b.toList) (h : ia = a.size ∨ ib = b.size) : Done K a b (out ++ a.extract ia ++ b.extract ib) := by
  have e : (out ++ a.extract ia ++ b.extract ib).toList = out.toList ++ a.toList.drop ia ++ b.toList.drop ib := by
    rw [Array.toList_append, Array.toList_append, extract_rest, extract_rest]
  unfold Done
  rw [e]
  constructor
  · have := m.perm
    rw [List.perm_iff_count] at this ⊢
    intro z
    have h1 := this z
    have h2 := congrArg (List.count z) (List.take_append_drop ia a.toList)
    have h3 := congrArg (List.count z) (List.take_append_drop ib b.toList)
    simp only [List.count_append] at h1 h2 h3 ⊢
    omega
  · refine List.pairwise_append.mpr ⟨List.pairwise_append.mpr ⟨m.srt, List.Pairwise.drop sa, fun x hx y hy => m.le x hx y (List.mem_append_left _ hy)⟩, List.Pairwise.drop sb, fun x hx y hy => ?_⟩
    rcases List.mem_append.mp hx with hx | hx
    · exact m.le x hx y (List.mem_append_right _ hy)
    · rcases h with rfl | rfl
      · rw [List.drop_of_length_le (by simp)] at hx; cases hx
      · rw [List.drop_of_length_le (by simp)] at hy; cases hy
theorem Mg.lastA {a b out : Array α} {ia ib : Nat} (m : Mg K a b out ia ib) (sa : Srt K a.toList) (sb : Srt K b.toList) (h : ia + 1 = a.size) (hl : ∀ (h : a.size - 1 < a.size), ∀ y ∈ b.toList, K y ≤ K a[a.size - 1]) : Done K a b (out ++ b.extract ib ++ a.extract ia) := by
  have e : (out ++ b.extract ib ++ a.extract ia).toList = out.toList ++ b.toList.drop ib ++ a.toList.drop ia := by
    rw [Array.toList_append, Array.toList_append, extract_rest, extract_rest]
  unfold Done
  rw [e]
  constructor
  · have := m.perm
    rw [List.perm_iff_count] at this ⊢
    intro z
    have h1 := this z
    have h2 := congrArg (List.count z) (List.take_append_drop ia a.toList)
    have h3 := congrArg (List.count z) (List.take_append_drop ib b.toList)
    simp only [List.count_append] at h1 h2 h3 ⊢
    omega
  · refine List.pairwise_append.mpr ⟨List.pairwise_append.mpr ⟨m.srt, List.Pairwise.drop sb, fun x hx y hy => m.le x hx y (List.mem_append_right _ hy)⟩, List.Pairwise.drop sa, fun x hx y hy => ?_⟩
    rcases List.mem_append.mp hx with hx | hx
    · exact m.le x hx y (List.mem_append_left _ hy)
    · have hlt : ia < a.size := by omega
      rw [drop_cons_ hlt, List.drop_of_length_le (by simp; omega)] at hy
      rw [List.mem_singleton.mp hy]
      have e2 : a.size - 1 = ia := by omega
      have := hl (by omega) x (List.mem_of_mem_drop hx)
      simpa only [e2] using this

/-- the same from behind -/
structure Mh (K : α → Int) (a b : Array α) (out : Array α) (na nb : Nat) : Prop where
  ha : na ≤ a.size
  hb : nb ≤ b.size
  perm : out.toList.Perm (a.toList.drop na ++ b.toList.drop nb)
  srt : Srt K out.toList.reverse
  le : ∀ y ∈ out.toList, ∀ x ∈ a.toList.take na ++ b.toList.take nb, K x ≤ K y
theorem Mh.symm {a b out : Array α} {na nb : Nat} (m : Mh K a b out na nb) : Mh K b a out nb na :=
  ⟨m.hb, m.ha, m.perm.trans List.perm_append_comm, m.srt, fun x hx y hy => m.le x hx y (List.mem_append.mpr (List.mem_append.mp hy).symm)⟩
theorem Mh.a {a b out : Array α} {na nb : Nat} (m : Mh K a b out (na + 1) nb) (sa : Srt K a.toList) (h : na < a.size) (hb : ∀ x ∈ b.toList.take nb, K x ≤ K a[na]) : Mh K a b (out.push a[na]) na nb where
  ha := Nat.le_of_lt h
  hb := m.hb
  perm := by
    rw [Array.toList_push, drop_cons_ h]
    have := m.perm
    rw [List.perm_iff_count] at this ⊢
    intro z
    have := this z
    simp only [List.count_append, List.count_cons, List.count_nil] at this ⊢
    omega
  srt := by
    rw [Array.toList_push, List.reverse_append]
    refine List.pairwise_append.mpr ⟨List.pairwise_singleton _ _, m.srt, fun x hx y hy => ?_⟩
    rw [List.mem_singleton.mp (show x ∈ [_] from hx)]
    exact m.le y (List.mem_reverse.mp hy) _ (List.mem_append_left _ (by rw [take_succ_ h]; simp))
  le := by
    intro y hy x hx
    rw [Array.toList_push] at hy
    rcases List.mem_append.mp hy with hy | hy
    · refine m.le y hy x ?_
      rcases List.mem_append.mp hx with hx | hx
      · exact List.mem_append_left _ (by rw [take_succ_ h]; exact List.mem_append_left _ hx)
      · exact List.mem_append_right _ hx
    · rw [List.mem_singleton.mp hy]
      rcases List.mem_append.mp hx with hx | hx
      · have : Srt K (a.toList.take (na + 1)) := List.Pairwise.take sa
        rw [take_succ_ h] at this
        exact (List.pairwise_append.mp this).2.2 x hx _ (.head _)
      · exact hb x hx
theorem Mh.b {a b out : Array α} {na nb : Nat} (m : Mh K a b out na (nb + 1)) (sb : Srt K b.toList) (h : nb < b.size) (ha : ∀ x ∈ a.toList.take na, K x ≤ K b[nb]) : Mh K a b (out.push b[nb]) na nb := (m.symm.a sb h ha).symm
theorem extract_rev {a : Array α} {i k : Nat} (h : i + k + 1 ≤ a.size) : (a.extract i (i + k + 1)).reverse = (a.extract (i + 1) (i + k + 1)).reverse.push a[i] := by
  apply Array.ext'
  rw [Array.toList_push, Array.toList_reverse, Array.toList_reverse]
  simp only [Array.toList_extract, List.extract_eq_take_drop]
  rw [show i + k + 1 - i = k + 1 by omega, show i + k + 1 - (i + 1) = k by omega, drop_cons_ (by omega), List.take_succ_cons, List.reverse_cons]
theorem Mh.as {a b : Array α} {nb : Nat} (sa : Srt K a.toList) : ∀ (k at_ : Nat) (out : Array α), Mh K a b out (at_ + k) nb → (∀ i (h : i < a.size), at_ ≤ i → i < at_ + k → ∀ x ∈ b.toList.take nb, K x ≤ K a[i]) → Mh K a b (out ++ (a.extract at_ (at_ + k)).reverse) at_ nb
  | 0, at_, out, m, _ => by
    have : out ++ (a.extract at_ (at_ + 0)).reverse = out := by
      rw [Nat.add_zero, Array.extract_eq_empty_of_le (by omega)]; simp
    rw [this]; exact m
  | k + 1, at_, out, m, hy => by
    have hs := m.ha
    have ih := Mh.as sa k (at_ + 1) out (by rw [show at_ + 1 + k = at_ + (k + 1) by omega]; exact m) fun i h h1 h2 => hy i h (by omega) (by omega)
    rw [← Nat.add_assoc, extract_rev (by omega), ← Array.push_append]
    rw [show at_ + 1 + k = at_ + k + 1 by omega] at ih
    exact ih.a sa (by omega) (hy at_ (by omega) (Nat.le_refl _) (by omega))
theorem Mh.bs {a b : Array α} {na : Nat} (sb : Srt K b.toList) (k at_ : Nat) (out : Array α) (m : Mh K a b out na (at_ + k)) (hy : ∀ i (h : i < b.size), at_ ≤ i → i < at_ + k → ∀ x ∈ a.toList.take na, K x ≤ K b[i]) : Mh K a b (out ++ (b.extract at_ (at_ + k)).reverse) na at_ :=
  (Mh.as sb k at_ out m.symm hy).symm
theorem extract_first (a : Array α) (i : Nat) : (a.extract 0 i).toList = a.toList.take i := by
  simp [Array.toList_extract, List.extract_eq_take_drop]
theorem Mh.done {a b out : Array α} {na nb : Nat} (m : Mh K a b out na nb) (sa : Srt K a.toList) (sb : Srt K b.toList) (h : na = 0 ∨ nb = 0) : Done K a b (a.extract 0 na ++ b.extract 0 nb ++ out.reverse) := by
  have e : (a.extract 0 na ++ b.extract 0 nb ++ out.reverse).toList = a.toList.take na ++ b.toList.take nb ++ out.toList.reverse := by
    rw [Array.toList_append, Array.toList_append, extract_first, extract_first, Array.toList_reverse]
  unfold Done
  rw [e]
  constructor
  · have := m.perm
    rw [List.perm_iff_count] at this ⊢
    intro z
    have h1 := this z
    have h2 := congrArg (List.count z) (List.take_append_drop na a.toList)
    have h3 := congrArg (List.count z) (List.take_append_drop nb b.toList)
    simp only [List.count_append, List.count_reverse] at h1 h2 h3 ⊢
    omega
  · refine List.pairwise_append.mpr ⟨List.pairwise_append.mpr ⟨List.Pairwise.take sa, List.Pairwise.take sb, fun x hx y hy => ?_⟩, m.srt, fun x hx y hy => m.le y (List.mem_reverse.mp hy) x hx⟩
    rcases h with rfl | rfl
    · simp at hx
    · simp at hy
theorem Mh.firstB {a b out : Array α} {na nb : Nat} (m : Mh K a b out na nb) (sa : Srt K a.toList) (sb : Srt K b.toList) (h : nb = 1) (hl : ∀ (h : 0 < b.size), ∀ x ∈ a.toList, K b[0] ≤ K x) : Done K a b (b.extract 0 nb ++ a.extract 0 na ++ out.reverse) := by
  have e : (b.extract 0 nb ++ a.extract 0 na ++ out.reverse).toList = b.toList.take nb ++ a.toList.take na ++ out.toList.reverse := by
    rw [Array.toList_append, Array.toList_append, extract_first, extract_first, Array.toList_reverse]
  unfold Done
  rw [e]
  constructor
  · have := m.perm
    rw [List.perm_iff_count] at this ⊢
    intro z
    have h1 := this z
    have h2 := congrArg (List.count z) (List.take_append_drop na a.toList)
    have h3 := congrArg (List.count z) (List.take_append_drop nb b.toList)
    simp only [List.count_append, List.count_reverse] at h1 h2 h3 ⊢
    omega
  · refine List.pairwise_append.mpr ⟨List.pairwise_append.mpr ⟨List.Pairwise.take sb, List.Pairwise.take sa, fun x hx y hy => ?_⟩, m.srt, fun x hx y hy => m.le y (List.mem_reverse.mp hy) x (List.mem_append.mpr (List.mem_append.mp hx).symm)⟩
    subst h
    have hb : 0 < b.size := m.hb
    rw [take_succ_ hb] at hx
    rw [List.mem_singleton.mp (show x ∈ [_] from hx)]
    exact hl hb y (List.mem_of_mem_take hy)
end
end Mine
end

section -- So2
open PySem PySem.W PyProof.Rows PySem.Calls
set_option Elab.async false
set_option maxRecDepth 100000
set_option maxHeartbeats 4000000
set_option linter.unusedVariables false
namespace Mine

def setMinGallop' : Nat → StateT SortSt Sem PUnit := sortPriv% PySem.Builtin.setMinGallop
structure Sb (arr : Array Keyed) (pd : Array (Nat × Nat × Nat)) (st : SortSt) : Prop where
  arr : arrOf st = arr
  kind : kindOf st = oneType'
  pend : pendingOf st = pd
  failed : failedOf st = none

section
variable {prog : Program} {w : World} {A : Around} {E : Value → Shared → Prop} {s : Shared} {M : Keyed → Prop} {K : Keyed → Int} {arr : Array Keyed} {pd : Array (Nat × Nat × Nat)}

theorem srt_get {a : Array Keyed} (sa : Srt K a.toList) {i j : Nat} (hij : i ≤ j) (hj : j < a.size) : K a[i] ≤ K a[j] := by
  rcases Nat.lt_or_ge i j with h | h
  · have := (List.pairwise_iff_getElem.mp sa) i j (by simp; omega) (by simpa using hj) h
    simpa using this
  · have : i = j := by omega
    subst this; exact Int.le_refl _
theorem mem_drop_ {a : Array Keyed} {i : Nat} {y : Keyed} (h : y ∈ a.toList.drop i) : ∃ j, ∃ hj : j < a.size, i ≤ j ∧ a[j] = y := by
  obtain ⟨k, hk, rfl⟩ := List.getElem_of_mem h
  have : i + k < a.size := by simpa [Nat.lt_sub_iff_add_lt, Nat.add_comm] using hk
  exact ⟨i + k, this, by omega, by simp⟩
theorem mem_take_ {a : Array Keyed} {i : Nat} {y : Keyed} (h : y ∈ a.toList.take i) : ∃ j, ∃ hj : j < a.size, j < i ∧ a[j] = y := by
  obtain ⟨k, hk, rfl⟩ := List.getElem_of_mem h
  have h2 : k < min i a.size := by simpa using hk
  exact ⟨k, by omega, by omega, by simp⟩
theorem mem_arr {a : Array Keyed} {i : Nat} (h : i < a.size) : a[i] ∈ a.toList := by simp

/-- gallop in a sorted array: how many are not above the key -/
theorem gallop_right {key : Keyed} {a : Array Keyed} {base n hint : Nat} {st : SortSt} {Q : Option Nat → SortSt → Prop} (C : Cmp prog w A s M K) (hs : Sb arr pd st) (hk : M key) (ha : ∀ x ∈ a.toList, M x) (sa : Srt K a.toList) (hn : base + n ≤ a.size) (hh : hint < n)
    (q : ∀ k, k ≤ n → (∀ i (h : base + i < a.size), i < k → K a[base + i] ≤ K key) → (∀ i (h : base + i < a.size), k ≤ i → i < n → K key < K a[base + i]) → Q (some k) st) : wpS (model prog w) A E s (gallop' false key a base n hint) Q st := by
  refine wpS_gallop_ (fun i => if h : base + i < a.size then !decide (K key < K a[base + i]) else false) (fun i hi Q' q' => ?_) (fun i j hij hj h => ?_) hh fun k h1 h2 h3 => q k h1 (fun i h hi => ?_) (fun i h hi hi' => ?_)
  · have hb : base + i < a.size := by omega
    refine wpS_bind (wpS_elem_ hb ?_)
    rw [if_neg (by simp)]
    refine wpS_bind (wpS_lt_ C hs.kind hk (ha _ (mem_arr hb)) (wpS_pure ?_))
    rw [dif_pos hb] at q'; exact q'
  · have hb : base + j < a.size := by omega
    have hb' : base + i < a.size := by omega
    rw [dif_pos hb] at h; rw [dif_pos hb']
    have := srt_get sa (show base + i ≤ base + j by omega) hb
    simp only [Bool.not_eq_true', decide_eq_false_iff_not] at h ⊢
    omega
  · have := h2 i hi
    rw [dif_pos h] at this
    simp only [Bool.not_eq_true', decide_eq_false_iff_not] at this
    omega
  · have := h3 i hi hi'
    rw [dif_pos h] at this
    simpa using this
/-- how many are below the key -/
theorem gallop_left {key : Keyed} {a : Array Keyed} {base n hint : Nat} {st : SortSt} {Q : Option Nat → SortSt → Prop} (C : Cmp prog w A s M K) (hs : Sb arr pd st) (hk : M key) (ha : ∀ x ∈ a.toList, M x) (sa : Srt K a.toList) (hn : base + n ≤ a.size) (hh : hint < n)
    (q : ∀ k, k ≤ n → (∀ i (h : base + i < a.size), i < k → K a[base + i] < K key) → (∀ i (h : base + i < a.size), k ≤ i → i < n → K key ≤ K a[base + i]) → Q (some k) st) : wpS (model prog w) A E s (gallop' true key a base n hint) Q st := by
  refine wpS_gallop_ (fun i => if h : base + i < a.size then decide (K a[base + i] < K key) else false) (fun i hi Q' q' => ?_) (fun i j hij hj h => ?_) hh fun k h1 h2 h3 => q k h1 (fun i h hi => ?_) (fun i h hi hi' => ?_)
  · have hb : base + i < a.size := by omega
    refine wpS_bind (wpS_elem_ hb ?_)
    rw [if_pos rfl]
    refine wpS_lt_ C hs.kind (ha _ (mem_arr hb)) hk ?_
    rw [dif_pos hb] at q'; exact q'
  · have hb : base + j < a.size := by omega
    have hb' : base + i < a.size := by omega
    rw [dif_pos hb] at h; rw [dif_pos hb']
    have := srt_get sa (show base + i ≤ base + j by omega) hb
    simp only [decide_eq_true_eq] at h ⊢
    omega
  · have := h2 i hi
    rw [dif_pos h] at this
    simpa using this
  · have := h3 i hi hi'
    rw [dif_pos h] at this
    simp only [decide_eq_false_iff_not] at this
    omega

theorem wpS_setMin {g : Nat} {st : SortSt} {Q : PUnit → SortSt → Prop} (hs : Sb arr pd st) (q : ∀ st', Sb arr pd st' → Q ⟨⟩ st') : wpS (model prog w) A E s (setMinGallop' g) Q st := by
  unfold setMinGallop'
  k_delta "setMinGallop"
  exact wpS_modify (q _ ⟨hs.arr, hs.kind, hs.pend, hs.failed⟩)
structure Hd (K : Keyed → Int) (a b out : Array Keyed) (ia ib : Nat) : Prop where
  mg : Mg K a b out ia ib
  la : ia + 1 < a.size
  lb : ib < b.size

theorem mg_nil {a b : Array Keyed} : Mg K a b #[] 0 0 := ⟨Nat.zero_le _, Nat.zero_le _, by simp, .nil, fun x hx => by simp at hx⟩

theorem wpS_mergeLo_ {a b : Array Keyed} {st : SortSt} {Q : Array Keyed → SortSt → Prop} (C : Cmp prog w A s M K) (hs : Sb arr pd st) (ha : ∀ x ∈ a.toList, M x) (hb : ∀ x ∈ b.toList, M x) (sa : Srt K a.toList) (sb : Srt K b.toList)
    (na : 0 < a.size) (nb : 0 < b.size) (hf : K b[0] ≤ K a[0]) (hl : ∀ (h : a.size - 1 < a.size), ∀ y ∈ b.toList, K y ≤ K a[a.size - 1]) (q : ∀ r st', Done K a b r → Sb arr pd st' → Q r st') :
    wpS (model prog w) A E s (mergeLo' a b) Q st := by
  unfold mergeLo'
  k_delta "mergeLo"
  dsimp only
  refine wpS_bind (wpS_lift (wpAny_rule ⟨rfl, ?_⟩))
  refine wpS_bind (wpS_elem_ nb ?_)
  have m1 : Mg K a b #[b[0]] 0 1 := by
    have := mg_nil (K := K) (a := a) (b := b)
    exact this.b nb sb fun y hy => by
      obtain ⟨j, hj, _, rfl⟩ := mem_drop_ hy
      exact Int.le_trans hf (srt_get sa (Nat.zero_le _) hj)
  by_cases h1 : 1 = b.size
  · rw [if_pos (by simp [← h1])]
    exact wpS_pure (q _ _ (m1.done sa sb (.inr h1)) hs)
  rw [if_neg (by simpa using h1)]
  by_cases h2 : 1 = a.size
  · rw [if_pos (by simp [← h2])]
    exact wpS_pure (q _ _ (m1.lastA sa sb (by omega) hl) hs)
  rw [if_neg (by simpa using h2)]
  refine wpS_bind (wpS_get ?_)
  have hd0 : Hd K a b #[b[0]] 0 1 := ⟨m1, by omega, by omega⟩
  refine wpS_bind (wpS_mono (wpS_forRange (I := fun x c st' => c.1 = none ∧ Hd K a b c.2.1 c.2.2.1 c.2.2.2.1 ∧ (a.size - c.2.2.1) + (b.size - c.2.2.2.1) + x ≤ a.size + b.size ∧ Sb arr pd st')
    (Q := fun c st' => ∃ r, c.1 = some r ∧ Done K a b r ∧ Sb arr pd st') ?step ?fin ⟨rfl, hd0, by dsimp only; omega, hs⟩) ?post)
  case post =>
    rintro ⟨c1, out, ia, ib, mg⟩ st' ⟨r, g0, g1, g2⟩
    dsimp only at g0 ⊢
    subst g0
    exact wpS_pure (q r st' g1 g2)
  case fin =>
    rintro ⟨c1, out, ia, ib, mg⟩ st' ⟨g0, g1, g2, g3⟩
    dsimp only at g0 g1 g2 g3
    have := g1.la; have := g1.lb
    omega
  case step =>
    rintro x ⟨c1, out, ia, ib, mg⟩ st' _ hx ⟨g0, g1, g2, g3⟩
    dsimp only at g0 g1 g2 g3 ⊢
    refine wpS_bind (wpS_mono (wpS_forRange (I := fun y c st' => c.1 = none ∧ Hd K a b c.2.1 c.2.2.1 c.2.2.2.1 ∧ (a.size - c.2.2.1) + (b.size - c.2.2.2.1) + y ≤ (a.size - ia) + (b.size - ib) ∧ Sb arr pd st')
      (Q := fun c st' => (∃ r, c.1 = some r ∧ Done K a b r ∧ Sb arr pd st') ∨ (c.1 = none ∧ Hd K a b c.2.1 c.2.2.1 c.2.2.2.1 ∧ (a.size - c.2.2.1) + (b.size - c.2.2.2.1) + 1 ≤ (a.size - ia) + (b.size - ib) ∧ Sb arr pd st')) ?step1 ?fin1 ⟨rfl, g1, Nat.le_refl _, g3⟩) ?post1)
    case fin1 =>
      rintro ⟨c1, out, ja, jb, ac, bc⟩ st' ⟨h0, h1, h2, h3⟩
      dsimp only at h0 h1 h2 h3
      have := h1.la; have := h1.lb
      omega
    case step1 =>
      rintro y ⟨c1, out, ja, jb, ac, bc⟩ st' _ hy ⟨h0, h1, h2, h3⟩
      dsimp only at h0 h1 h2 h3 ⊢
      have la := h1.la; have lb := h1.lb
      have la' : ja < a.size := by omega
      refine wpS_bind (wpS_elem_ lb ?_)
      refine wpS_bind (wpS_elem_ la' ?_)
      refine wpS_bind (wpS_lt_ C h3.kind (hb _ (mem_arr lb)) (ha _ (mem_arr la')) ?_)
      by_cases hlt : K b[jb] < K a[ja]
      · rw [decide_eq_true hlt]
        dsimp only
        rw [if_pos rfl]
        refine wpS_bind (wpS_elem_ lb ?_)
        have m2 := h1.mg.b lb sb fun y hy => by
          obtain ⟨j, hj, hij, rfl⟩ := mem_drop_ hy
          exact Int.le_trans (Int.le_of_lt hlt) (srt_get sa hij hj)
        by_cases e : jb + 1 = b.size
        · rw [if_pos (by simpa using e)]
          exact wpS_pure (.inl ⟨_, rfl, m2.done sa sb (.inr e), h3⟩)
        rw [if_neg (by simpa using e)]
        by_cases e2 : bc + 1 ≥ mg
        · rw [if_pos e2]
          exact wpS_pure (.inr ⟨rfl, ⟨m2, la, by dsimp only; omega⟩, by dsimp only; omega, h3⟩)
        · rw [if_neg e2]
          exact wpS_pure ⟨rfl, ⟨m2, la, by dsimp only; omega⟩, by dsimp only; omega, h3⟩
      · rw [decide_eq_false hlt]
        dsimp only
        rw [if_neg (by simp)]
        refine wpS_bind (wpS_elem_ la' ?_)
        have m2 := h1.mg.a la' sa fun y hy => by
          obtain ⟨j, hj, hij, rfl⟩ := mem_drop_ hy
          exact Int.le_trans (Int.not_lt.mp hlt) (srt_get sb hij hj)
        by_cases e : ja + 1 + 1 = a.size
        · rw [if_pos (by simpa using e)]
          exact wpS_pure (.inl ⟨_, rfl, m2.lastA sa sb e hl, h3⟩)
        rw [if_neg (by simpa using e)]
        by_cases e2 : ac + 1 ≥ mg
        · rw [if_pos e2]
          exact wpS_pure (.inr ⟨rfl, ⟨m2, by dsimp only; omega, lb⟩, by dsimp only; omega, h3⟩)
        · rw [if_neg e2]
          exact wpS_pure ⟨rfl, ⟨m2, by dsimp only; omega, lb⟩, by dsimp only; omega, h3⟩
    case post1 =>
      rintro ⟨c1, out, ja, jb, ac, bc⟩ st' h
      dsimp only at h ⊢
      rcases h with ⟨r, rfl, h1, h2⟩ | ⟨rfl, h1, h2, h3⟩
      · exact wpS_pure ⟨r, rfl, h1, h2⟩
      dsimp only
      refine wpS_bind (wpS_lift (wpAny_rule ⟨rfl, ?_⟩))
      refine wpS_bind (wpS_mono (wpS_forRange (I := fun y c st' => c.1 = none ∧ Hd K a b c.2.1 c.2.2.1 c.2.2.2.1 ∧ (a.size - c.2.2.1) + (b.size - c.2.2.2.1) + y + 1 ≤ (a.size - ia) + (b.size - ib) ∧ Sb arr pd st')
        (Q := fun c st' => (∃ r, c.1 = some r ∧ Done K a b r ∧ Sb arr pd st') ∨ (c.1 = none ∧ Hd K a b c.2.1 c.2.2.1 c.2.2.2.1 ∧ (a.size - c.2.2.1) + (b.size - c.2.2.2.1) + 1 ≤ (a.size - ia) + (b.size - ib) ∧ Sb arr pd st')) ?step2 ?fin2 ⟨rfl, h1, h2, h3⟩) ?post2)
      case fin2 =>
        rintro ⟨c1, out, ja, jb, mg, ac, bc⟩ st' ⟨h0, h1, h2, h3⟩
        dsimp only at h0 h1 h2 h3
        have := h1.la; have := h1.lb
        omega
      case post2 =>
        rintro ⟨c1, out, ja, jb, mg, ac, bc⟩ st' h
        dsimp only at h ⊢
        rcases h with ⟨r, rfl, h1, h2⟩ | ⟨rfl, h1, h2, h3⟩
        · exact wpS_pure ⟨r, rfl, h1, h2⟩
        dsimp only
        refine wpS_bind (wpS_setMin h3 fun st4 h4 => ?_)
        exact wpS_pure ⟨rfl, h1, by dsimp only; omega, h4⟩
      case step2 =>
        clear g0 g1 g3 h1 h2 h3
        rintro y ⟨c1, out, ja, jb, mg, ac, bc⟩ st' _ hy ⟨h0, h1, h2, h3⟩
        dsimp only at h0 h1 h2 h3 ⊢
        have la := h1.la; have lb := h1.lb
        have la' : ja < a.size := by omega
        have m1 := h1.mg
        rcases Nat.lt_or_ge 1 mg with hmg | hmg
        all_goals first | rw [if_pos hmg] | rw [if_neg (show ¬ mg > 1 by omega)]
        all_goals
          refine wpS_bind (wpS_setMin h3 fun st4 h4 => ?_)
          refine wpS_bind (wpS_elem_ lb ?_)
          refine wpS_bind (gallop_right C h4 (hb _ (mem_arr lb)) ha sa (by omega) (by omega) fun k hk e1 e2 => ?_)
          dsimp only
          have m2 : Mg K a b (out ++ a.extract ja (ja + k)) (ja + k) jb := m1.as sa k (by omega) fun i hi hik y hy => by
            obtain ⟨j, hj, hij, rfl⟩ := mem_drop_ hy
            exact Int.le_trans (e1 i hi hik) (srt_get sb hij hj)
          have af : ∀ y ∈ a.toList.drop (ja + k), K b[jb] ≤ K y := fun y hy => by
            obtain ⟨j, hj, hij, rfl⟩ := mem_drop_ hy
            have := e2 (j - ja) (by omega) (by omega) (by omega)
            simp only [show ja + (j - ja) = j by omega] at this
            exact Int.le_of_lt this
          have hup : ja ≤ ja + k := Nat.le_add_right _ _
          by_cases hk0 : k > 0
          rw [if_pos hk0]
          by_cases z1 : ja + k + 1 = a.size
          · rw [if_pos (by simpa using z1)]
            exact wpS_pure (.inl ⟨_, rfl, m2.lastA sa sb z1 hl, h4⟩)
          rw [if_neg (by simpa using z1)]
          by_cases z2 : ja + k = a.size
          · rw [if_pos (by simpa using z2)]
            exact wpS_pure (.inl ⟨_, rfl, m2.done sa sb (.inl z2), h4⟩)
          rw [if_neg (by simpa using z2)]
          have z3 : ja + k + 1 < a.size := by omega
          clear z1 z2 hk0
          rotate_left
          rw [if_neg hk0]
          have hk0' : k = 0 := by omega
          have m2 : Mg K a b out ja jb := m1
          have af : ∀ y ∈ a.toList.drop ja, K b[jb] ≤ K y := by rw [hk0'] at af; exact af
          have z3 : ja + 1 < a.size := la
          clear hup
          generalize out = out2 at m2 ⊢
          generalize hj2 : ja = ja2 at m2 af z3 ⊢
          have hup : ja ≤ ja2 := by omega
          rotate_left
          generalize out ++ a.extract ja (ja + k) = out2 at m2 ⊢
          generalize ja + k = ja2 at m2 af z3 hup ⊢
          all_goals
            refine wpS_bind (wpS_elem_ lb ?_)
            have m3 := m2.b lb sb af
            by_cases z4 : jb + 1 = b.size
            · rw [if_pos (by simpa using z4)]
              exact wpS_pure (.inl ⟨_, rfl, m3.done sa sb (.inr z4), h4⟩)
            rw [if_neg (by simpa using z4)]
            have la2 : ja2 < a.size := by omega
            refine wpS_bind (wpS_elem_ la2 ?_)
            refine wpS_bind (gallop_left C h4 (ha _ (mem_arr la2)) hb sb (by omega) (by omega) fun k2 hk2 e3 e4 => ?_)
            dsimp only
            have m4 : Mg K a b (out2.push b[jb] ++ b.extract (jb + 1) (jb + 1 + k2)) ja2 (jb + 1 + k2) := m3.bs sb k2 (by omega) fun i hi hik y hy => by
              obtain ⟨j, hj, hij, rfl⟩ := mem_drop_ hy
              exact Int.le_trans (Int.le_of_lt (e3 i hi hik)) (srt_get sa hij hj)
            have ag : ∀ y ∈ b.toList.drop (jb + 1 + k2), K a[ja2] ≤ K y := fun y hy => by
              obtain ⟨j, hj, hij, rfl⟩ := mem_drop_ hy
              have := e4 (j - (jb + 1)) (by omega) (by omega) (by omega)
              simp only [show jb + 1 + (j - (jb + 1)) = j by omega] at this
              exact this
            have hup2 : jb < jb + 1 + k2 := by omega
            by_cases hk20 : k2 > 0
            rw [if_pos hk20]
            by_cases z5 : jb + 1 + k2 = b.size
            · rw [if_pos (by simpa using z5)]
              exact wpS_pure (.inl ⟨_, rfl, m4.done sa sb (.inr z5), h4⟩)
            rw [if_neg (by simpa using z5)]
            have z6 : jb + 1 + k2 < b.size := by omega
            clear z5 hk20
            rotate_left
            rw [if_neg hk20]
            have hk20' : k2 = 0 := by omega
            have m4 : Mg K a b (out2.push b[jb]) ja2 (jb + 1) := m3
            have ag : ∀ y ∈ b.toList.drop (jb + 1), K a[ja2] ≤ K y := by rw [hk20'] at ag; exact ag
            have z6 : jb + 1 < b.size := by omega
            clear hup2
            generalize out2.push b[jb] = out3 at m4 ⊢
            generalize hj3 : jb + 1 = jb2 at m4 ag z6 ⊢
            have hup2 : jb < jb2 := by omega
            rotate_left
            generalize out2.push b[jb] ++ b.extract (jb + 1) (jb + 1 + k2) = out3 at m4 ⊢
            generalize jb + 1 + k2 = jb2 at m4 ag z6 hup2 ⊢
            all_goals
              refine wpS_bind (wpS_elem_ la2 ?_)
              have m5 := m4.a la2 sa ag
              by_cases z7 : ja2 + 1 + 1 = a.size
              · rw [if_pos (by simpa using z7)]
                exact wpS_pure (.inl ⟨_, rfl, m5.lastA sa sb z7 hl, h4⟩)
              rw [if_neg (by simpa using z7)]
              by_cases z8 : (decide (k < 7) && decide (k2 < 7)) = true
              · rw [if_pos z8]
                exact wpS_pure (.inr ⟨rfl, ⟨m5, by dsimp only; omega, z6⟩, by dsimp only; omega, h4⟩)
              · rw [if_neg z8]
                exact wpS_pure ⟨rfl, ⟨m5, by dsimp only; omega, z6⟩, by dsimp only; omega, h4⟩

end
end Mine
end

section -- So3
open PySem PySem.W PyProof.Rows PySem.Calls
set_option Elab.async false
set_option maxRecDepth 100000
set_option maxHeartbeats 4000000
set_option linter.unusedVariables false
namespace Mine

theorem Mh.a' {K : Keyed → Int} {a b out : Array Keyed} {na nb : Nat} (m : Mh K a b out na nb) (sa : Srt K a.toList) (h0 : 0 < na) (h : na - 1 < a.size) (hb : ∀ x ∈ b.toList.take nb, K x ≤ K a[na - 1]) : Mh K a b (out.push a[na - 1]) (na - 1) nb := by
  obtain ⟨n, rfl⟩ : ∃ n, na = n + 1 := ⟨na - 1, by omega⟩
  exact m.a sa h hb
theorem Mh.b' {K : Keyed → Int} {a b out : Array Keyed} {na nb : Nat} (m : Mh K a b out na nb) (sb : Srt K b.toList) (h0 : 0 < nb) (h : nb - 1 < b.size) (ha : ∀ x ∈ a.toList.take na, K x ≤ K b[nb - 1]) : Mh K a b (out.push b[nb - 1]) na (nb - 1) := by
  obtain ⟨n, rfl⟩ : ∃ n, nb = n + 1 := ⟨nb - 1, by omega⟩
  exact m.b sb h ha
theorem Mh.as' {K : Keyed → Int} {a b out : Array Keyed} {na nb at_ : Nat} (m : Mh K a b out na nb) (sa : Srt K a.toList) (h : at_ ≤ na) (hy : ∀ i (h : i < a.size), at_ ≤ i → i < na → ∀ x ∈ b.toList.take nb, K x ≤ K a[i]) : Mh K a b (out ++ (a.extract at_ na).reverse) at_ nb := by
  obtain ⟨n, rfl⟩ : ∃ n, na = at_ + n := ⟨na - at_, by omega⟩
  exact Mh.as sa n at_ out m hy
theorem Mh.bs' {K : Keyed → Int} {a b out : Array Keyed} {na nb at_ : Nat} (m : Mh K a b out na nb) (sb : Srt K b.toList) (h : at_ ≤ nb) (hy : ∀ i (h : i < b.size), at_ ≤ i → i < nb → ∀ x ∈ a.toList.take na, K x ≤ K b[i]) : Mh K a b (out ++ (b.extract at_ nb).reverse) na at_ := by
  obtain ⟨n, rfl⟩ : ∃ n, nb = at_ + n := ⟨nb - at_, by omega⟩
  exact Mh.bs sb n at_ out m hy

section
variable {prog : Program} {w : World} {A : Around} {E : Value → Shared → Prop} {s : Shared} {M : Keyed → Prop} {K : Keyed → Int} {arr : Array Keyed} {pd : Array (Nat × Nat × Nat)}

structure Hh (K : Keyed → Int) (a b out : Array Keyed) (na nb : Nat) : Prop where
  mg : Mh K a b out na nb
  la : 0 < na
  lb : 1 < nb

theorem mh_nil {a b : Array Keyed} : Mh K a b #[] a.size b.size := ⟨Nat.le_refl _, Nat.le_refl _, by
  rw [List.drop_of_length_le (by simp), List.drop_of_length_le (by simp)]; exact .nil, .nil, fun x hx => by simp at hx⟩

theorem wpS_mergeHi_ {a b : Array Keyed} {st : SortSt} {Q : Array Keyed → SortSt → Prop} (C : Cmp prog w A s M K) (hs : Sb arr pd st) (ha : ∀ x ∈ a.toList, M x) (hb : ∀ x ∈ b.toList, M x) (sa : Srt K a.toList) (sb : Srt K b.toList)
    (na : 0 < a.size) (nb : 0 < b.size) (hf : K b[0] ≤ K a[0]) (hl : ∀ (h : a.size - 1 < a.size), ∀ y ∈ b.toList, K y ≤ K a[a.size - 1]) (q : ∀ r st', Done K a b r → Sb arr pd st' → Q r st') :
    wpS (model prog w) A E s (mergeHi' a b) Q st := by
  have hfirst : ∀ (h : 0 < b.size), ∀ x ∈ a.toList, K b[0] ≤ K x := fun h x hx => by
    obtain ⟨j, hj, rfl⟩ := List.getElem_of_mem hx
    exact Int.le_trans hf (by simpa using srt_get sa (Nat.zero_le j) (by simpa using hj))
  unfold mergeHi'
  k_delta "mergeHi"
  dsimp only
  refine wpS_bind (wpS_lift (wpAny_rule ⟨rfl, ?_⟩))
  have na1 : a.size - 1 < a.size := by omega
  refine wpS_bind (wpS_elem_ na1 ?_)
  have m1 : Mh K a b #[a[a.size - 1]] (a.size - 1) b.size := by
    have := mh_nil (K := K) (a := a) (b := b)
    exact this.a' sa na na1 fun y hy => hl na1 y (List.mem_of_mem_take hy)
  by_cases h1 : a.size - 1 = 0
  · rw [if_pos (by simpa using h1)]
    exact wpS_pure (q _ _ (m1.done sa sb (.inl h1)) hs)
  rw [if_neg (by simpa using h1)]
  by_cases h2 : b.size = 1
  · rw [if_pos (by simpa using h2)]
    exact wpS_pure (q _ _ (m1.firstB sa sb h2 hfirst) hs)
  rw [if_neg (by simpa using h2)]
  refine wpS_bind (wpS_get ?_)
  have hd0 : Hh K a b #[a[a.size - 1]] (a.size - 1) b.size := ⟨m1, by omega, by omega⟩
  refine wpS_bind (wpS_mono (wpS_forRange (I := fun x c st' => c.1 = none ∧ Hh K a b c.2.2.2.1 c.2.1 c.2.2.1 ∧ c.2.1 + c.2.2.1 + x ≤ a.size + b.size ∧ Sb arr pd st')
    (Q := fun c st' => ∃ r, c.1 = some r ∧ Done K a b r ∧ Sb arr pd st') ?step ?fin ⟨rfl, hd0, by dsimp only; omega, hs⟩) ?post)
  case post =>
    rintro ⟨c1, na, nb, out, mg⟩ st' ⟨r, g0, g1, g2⟩
    dsimp only at g0 ⊢
    subst g0
    exact wpS_pure (q r st' g1 g2)
  case fin =>
    rintro ⟨c1, na, nb, out, mg⟩ st' ⟨g0, g1, g2, g3⟩
    dsimp only at g0 g1 g2 g3
    have := g1.la; have := g1.lb
    omega
  case step =>
    rintro x ⟨c1, na, nb, out, mg⟩ st' _ hx ⟨g0, g1, g2, g3⟩
    dsimp only at g0 g1 g2 g3 ⊢
    refine wpS_bind (wpS_mono (wpS_forRange (I := fun y c st' => c.1 = none ∧ Hh K a b c.2.2.2.1 c.2.1 c.2.2.1 ∧ c.2.1 + c.2.2.1 + y ≤ na + nb ∧ Sb arr pd st')
      (Q := fun c st' => (∃ r, c.1 = some r ∧ Done K a b r ∧ Sb arr pd st') ∨ (c.1 = none ∧ Hh K a b c.2.2.2.1 c.2.1 c.2.2.1 ∧ c.2.1 + c.2.2.1 + 1 ≤ na + nb ∧ Sb arr pd st')) ?step1 ?fin1 ⟨rfl, g1, Nat.le_refl _, g3⟩) ?post1)
    case fin1 =>
      rintro ⟨c1, ja, jb, out, ac, bc⟩ st' ⟨h0, h1, h2, h3⟩
      dsimp only at h0 h1 h2 h3
      have := h1.la; have := h1.lb
      omega
    case step1 =>
      rintro y ⟨c1, ja, jb, out, ac, bc⟩ st' _ hy ⟨h0, h1, h2, h3⟩
      dsimp only at h0 h1 h2 h3 ⊢
      have la := h1.la; have lb := h1.lb
      have la0 := h1.mg.ha; have lb0 := h1.mg.hb
      have la' : ja - 1 < a.size := by omega
      have lb' : jb - 1 < b.size := by omega
      refine wpS_bind (wpS_elem_ lb' ?_)
      refine wpS_bind (wpS_elem_ la' ?_)
      refine wpS_bind (wpS_lt_ C h3.kind (hb _ (mem_arr lb')) (ha _ (mem_arr la')) ?_)
      by_cases hlt : K b[jb - 1] < K a[ja - 1]
      · rw [decide_eq_true hlt]
        dsimp only
        rw [if_pos rfl]
        refine wpS_bind (wpS_elem_ la' ?_)
        have m2 := h1.mg.a' sa la la' fun y hy => by
          obtain ⟨j, hj, hij, rfl⟩ := mem_take_ hy
          exact Int.le_trans (srt_get sb (show j ≤ jb - 1 by omega) lb') (Int.le_of_lt hlt)
        by_cases e : ja - 1 = 0
        · rw [if_pos (by simpa using e)]
          exact wpS_pure (.inl ⟨_, rfl, m2.done sa sb (.inl e), h3⟩)
        rw [if_neg (by simpa using e)]
        by_cases e2 : ac + 1 ≥ mg
        · rw [if_pos e2]
          exact wpS_pure (.inr ⟨rfl, ⟨m2, by dsimp only; omega, lb⟩, by dsimp only; omega, h3⟩)
        · rw [if_neg e2]
          exact wpS_pure ⟨rfl, ⟨m2, by dsimp only; omega, lb⟩, by dsimp only; omega, h3⟩
      · rw [decide_eq_false hlt]
        dsimp only
        rw [if_neg (by simp)]
        refine wpS_bind (wpS_elem_ lb' ?_)
        have m2 := h1.mg.b' sb (by omega) lb' fun y hy => by
          obtain ⟨j, hj, hij, rfl⟩ := mem_take_ hy
          exact Int.le_trans (srt_get sa (show j ≤ ja - 1 by omega) la') (Int.not_lt.mp hlt)
        by_cases e : jb - 1 = 1
        · rw [if_pos (by simpa using e)]
          exact wpS_pure (.inl ⟨_, rfl, m2.firstB sa sb e hfirst, h3⟩)
        rw [if_neg (by simpa using e)]
        by_cases e2 : bc + 1 ≥ mg
        · rw [if_pos e2]
          exact wpS_pure (.inr ⟨rfl, ⟨m2, la, by dsimp only; omega⟩, by dsimp only; omega, h3⟩)
        · rw [if_neg e2]
          exact wpS_pure ⟨rfl, ⟨m2, la, by dsimp only; omega⟩, by dsimp only; omega, h3⟩
    case post1 =>
      rintro ⟨c1, ja, jb, out, ac, bc⟩ st' h
      dsimp only at h ⊢
      rcases h with ⟨r, rfl, h1, h2⟩ | ⟨rfl, h1, h2, h3⟩
      · exact wpS_pure ⟨r, rfl, h1, h2⟩
      dsimp only
      refine wpS_bind (wpS_lift (wpAny_rule ⟨rfl, ?_⟩))
      refine wpS_bind (wpS_mono (wpS_forRange (I := fun y c st' => c.1 = none ∧ Hh K a b c.2.2.2.1 c.2.1 c.2.2.1 ∧ c.2.1 + c.2.2.1 + y + 1 ≤ na + nb ∧ Sb arr pd st')
        (Q := fun c st' => (∃ r, c.1 = some r ∧ Done K a b r ∧ Sb arr pd st') ∨ (c.1 = none ∧ Hh K a b c.2.2.2.1 c.2.1 c.2.2.1 ∧ c.2.1 + c.2.2.1 + 1 ≤ na + nb ∧ Sb arr pd st')) ?step2 ?fin2 ⟨rfl, h1, h2, h3⟩) ?post2)
      case fin2 =>
        rintro ⟨c1, ja, jb, out, mg, ac, bc⟩ st' ⟨h0, h1, h2, h3⟩
        dsimp only at h0 h1 h2 h3
        have := h1.la; have := h1.lb
        omega
      case post2 =>
        rintro ⟨c1, ja, jb, out, mg, ac, bc⟩ st' h
        dsimp only at h ⊢
        rcases h with ⟨r, rfl, h1, h2⟩ | ⟨rfl, h1, h2, h3⟩
        · exact wpS_pure ⟨r, rfl, h1, h2⟩
        dsimp only
        refine wpS_bind (wpS_setMin h3 fun st4 h4 => ?_)
        exact wpS_pure ⟨rfl, h1, by dsimp only; omega, h4⟩
      case step2 =>
        clear g0 g1 g3 h1 h2 h3
        rintro y ⟨c1, ja, jb, out, mg, ac, bc⟩ st' _ hy ⟨h0, h1, h2, h3⟩
        dsimp only at h0 h1 h2 h3 ⊢
        have la := h1.la; have lb := h1.lb
        have m1 := h1.mg
        have la0 := h1.mg.ha; have lb0 := h1.mg.hb
        have lb' : jb - 1 < b.size := by omega
        rcases Nat.lt_or_ge 1 mg with hmg | hmg
        all_goals first | rw [if_pos hmg] | rw [if_neg (show ¬ mg > 1 by omega)]
        all_goals
          refine wpS_bind (wpS_setMin h3 fun st4 h4 => ?_)
          refine wpS_bind (wpS_elem_ lb' ?_)
          refine wpS_bind (gallop_right C h4 (hb _ (mem_arr lb')) ha sa (by omega) (by omega) fun k hk e1 e2 => ?_)
          simp only [Nat.zero_add] at e1 e2
          dsimp only
          have m2 : Mh K a b (out ++ (a.extract k ja).reverse) k jb := m1.as' sa hk fun i hi h1 h2 y hy => by
            obtain ⟨j, hj, hij, rfl⟩ := mem_take_ hy
            exact Int.le_trans (srt_get sb (show j ≤ jb - 1 by omega) lb') (Int.le_of_lt (e2 i hi h1 h2))
          have af : ∀ y ∈ a.toList.take k, K y ≤ K b[jb - 1] := fun y hy => by
            obtain ⟨j, hj, hij, rfl⟩ := mem_take_ hy
            exact e1 j hj hij
          have hup : k ≤ ja := hk
          generalize hkk : ja - k = kk
          by_cases hk0 : kk > 0
          rw [if_pos hk0]
          by_cases z1 : k = 0
          · rw [if_pos (by simpa using z1)]
            exact wpS_pure (.inl ⟨_, rfl, m2.done sa sb (.inl z1), h4⟩)
          rw [if_neg (by simpa using z1)]
          have z3 : 0 < k := by omega
          clear z1 hk0
          rotate_left
          rw [if_neg hk0]
          have hk0' : k = ja := by omega
          have m2 : Mh K a b out ja jb := m1
          have af : ∀ y ∈ a.toList.take ja, K y ≤ K b[jb - 1] := by rw [hk0'] at af; exact af
          have z3 : 0 < ja := la
          clear hup
          generalize out = out2 at m2 ⊢
          generalize hj2 : ja = ja2 at m2 af z3 ⊢
          have hup : ja2 ≤ ja := by omega
          rotate_left
          generalize out ++ (a.extract k ja).reverse = out2 at m2 ⊢
          generalize k = ja2 at m2 af z3 hup ⊢
          all_goals
            refine wpS_bind (wpS_elem_ lb' ?_)
            have m3 := m2.b' sb (by omega) lb' af
            by_cases z4 : jb - 1 = 1
            · rw [if_pos (by simpa using z4)]
              exact wpS_pure (.inl ⟨_, rfl, m3.firstB sa sb z4 hfirst, h4⟩)
            rw [if_neg (by simpa using z4)]
            have la2 : ja2 - 1 < a.size := by omega
            refine wpS_bind (wpS_elem_ la2 ?_)
            refine wpS_bind (gallop_left C h4 (ha _ (mem_arr la2)) hb sb (by omega) (by omega) fun k2 hk2 e3 e4 => ?_)
            simp only [Nat.zero_add] at e3 e4
            dsimp only
            have m4 : Mh K a b (out2.push b[jb - 1] ++ (b.extract k2 (jb - 1)).reverse) ja2 k2 := m3.bs' sb hk2 fun i hi h1 h2 y hy => by
              obtain ⟨j, hj, hij, rfl⟩ := mem_take_ hy
              exact Int.le_trans (srt_get sa (show j ≤ ja2 - 1 by omega) la2) (e4 i hi h1 h2)
            have ag : ∀ y ∈ b.toList.take k2, K y ≤ K a[ja2 - 1] := fun y hy => by
              obtain ⟨j, hj, hij, rfl⟩ := mem_take_ hy
              exact Int.le_of_lt (e3 j hj hij)
            have hup2 : k2 < jb := by omega
            generalize hkk2 : jb - 1 - k2 = kk2
            by_cases hk20 : kk2 > 0
            rw [if_pos hk20]
            by_cases z5 : k2 = 1
            · rw [if_pos (by simpa using z5)]
              exact wpS_pure (.inl ⟨_, rfl, m4.firstB sa sb z5 hfirst, h4⟩)
            rw [if_neg (by simpa using z5)]
            by_cases z9 : k2 = 0
            · rw [if_pos (by simpa using z9)]
              exact wpS_pure (.inl ⟨_, rfl, m4.done sa sb (.inr z9), h4⟩)
            rw [if_neg (by simpa using z9)]
            have z6 : 1 < k2 := by omega
            clear z5 z9 hk20
            rotate_left
            rw [if_neg hk20]
            have hk20' : k2 = jb - 1 := by omega
            have m4 : Mh K a b (out2.push b[jb - 1]) ja2 (jb - 1) := m3
            have ag : ∀ y ∈ b.toList.take (jb - 1), K y ≤ K a[ja2 - 1] := by rw [hk20'] at ag; exact ag
            have z6 : 1 < jb - 1 := by omega
            clear hup2
            generalize out2.push b[jb - 1] = out3 at m4 ⊢
            generalize hj3 : jb - 1 = jb2 at m4 ag z6 ⊢
            have hup2 : jb2 < jb := by omega
            rotate_left
            generalize out2.push b[jb - 1] ++ (b.extract k2 (jb - 1)).reverse = out3 at m4 ⊢
            generalize k2 = jb2 at m4 ag z6 hup2 ⊢
            all_goals
              refine wpS_bind (wpS_elem_ la2 ?_)
              have m5 := m4.a' sa z3 la2 ag
              by_cases z7 : ja2 - 1 = 0
              · rw [if_pos (by simpa using z7)]
                exact wpS_pure (.inl ⟨_, rfl, m5.done sa sb (.inl z7), h4⟩)
              rw [if_neg (by simpa using z7)]
              by_cases z8 : (decide (kk < 7) && decide (kk2 < 7)) = true
              · rw [if_pos z8]
                exact wpS_pure (.inr ⟨rfl, ⟨m5, by dsimp only; omega, z6⟩, by dsimp only; omega, h4⟩)
              · rw [if_neg z8]
                exact wpS_pure ⟨rfl, ⟨m5, by dsimp only; omega, z6⟩, by dsimp only; omega, h4⟩
end
end Mine
end

section -- So4
open PySem PySem.W PyProof.Rows PySem.Calls
set_option Elab.async false
set_option maxRecDepth 100000
set_option maxHeartbeats 4000000
set_option linter.unusedVariables false
namespace Mine

/-- the key at place lo + i -/
def Fk (K : Keyed → Int) (lo : Nat) (xs : Array Keyed) (i : Nat) : Int := match xs[lo + i]? with
  | some p => K p
  | none => 0
def Up (K : Keyed → Int) (lo : Nat) (xs : Array Keyed) (n : Nat) : Prop := ∀ i j, i ≤ j → j < n → Fk K lo xs i ≤ Fk K lo xs j
def Down (K : Keyed → Int) (lo : Nat) (xs : Array Keyed) (n : Nat) : Prop := ∀ i j, i ≤ j → j < n → Fk K lo xs j ≤ Fk K lo xs i
structure SB (a₀ : Array Keyed) (lo : Nat) (pd : Array (Nat × Nat × Nat)) (st : SortSt) : Prop where
  perm : (arrOf st).Perm a₀
  kind : kindOf st = oneType'
  failed : failedOf st = none
  pend : pendingOf st = pd
  out : ∀ k, k < lo → (arrOf st)[k]? = a₀[k]?
theorem SB.size {a₀ : Array Keyed} {lo : Nat} {pd : Array (Nat × Nat × Nat)} {st : SortSt} (h : SB a₀ lo pd st) : (arrOf st).size = a₀.size := h.perm.size_eq
theorem SB.mem {a₀ : Array Keyed} {lo : Nat} {pd : Array (Nat × Nat × Nat)} {st : SortSt} (h : SB a₀ lo pd st) {M : Keyed → Prop} (hM : ∀ x ∈ a₀.toList, M x) : ∀ x ∈ (arrOf st).toList, M x :=
  fun x hx => hM x ((Array.perm_iff_toList_perm.mp h.perm).mem_iff.mp hx)
theorem Fk_get {K : Keyed → Int} {lo : Nat} {xs : Array Keyed} {i : Nat} (h : lo + i < xs.size) : Fk K lo xs i = K xs[lo + i] := by
  unfold Fk; rw [getElem?_pos xs _ h]
theorem Fk_congr {K : Keyed → Int} {lo : Nat} {xs ys : Array Keyed} {i j : Nat} (h : xs[lo + i]? = ys[lo + j]?) : Fk K lo xs i = Fk K lo ys j := by unfold Fk; rw [h]
theorem Fk_mirror {K : Keyed → Int} {lo : Nat} {xs : Array Keyed} {i j : Nat} (hj : lo + j ≤ xs.size) (k : Nat) :
    Fk K lo (mirror xs (lo + i) (lo + j) ((lo + j - (lo + i)) / 2)) k = if i ≤ k ∧ k < j then Fk K lo xs (i + j - 1 - k) else Fk K lo xs k := by
  have e := getElem?_mirror_all (i := lo + i) hj (lo + k)
  by_cases h1 : i ≤ k ∧ k < j
  · rw [if_pos h1]
    rw [if_pos (by omega), show lo + i + (lo + j) - 1 - (lo + k) = lo + (i + j - 1 - k) by omega] at e
    exact Fk_congr e
  · rw [if_neg h1]
    rw [if_neg (by omega)] at e
    exact Fk_congr e
theorem Fk_mirror_same {K : Keyed → Int} {lo : Nat} {xs : Array Keyed} {i j : Nat} (hj : lo + j ≤ xs.size) (heq : ∀ k, i ≤ k → k < j → Fk K lo xs k = Fk K lo xs (j - 1)) (k : Nat) :
    Fk K lo (mirror xs (lo + i) (lo + j) ((lo + j - (lo + i)) / 2)) k = Fk K lo xs k := by
  rw [Fk_mirror hj]
  split
  · rw [heq _ (by omega) (by omega), heq k (by omega) (by omega)]
  · rfl
theorem Fk_bubble {K : Keyed → Int} {lo : Nat} {xs : Array Keyed} {k l : Nat} (hs : lo + k < xs.size) (hl : l ≤ k) (i : Nat) :
    Fk K lo (bubble xs (lo + k) (lo + k - (lo + l))) i = if i = l then Fk K lo xs k else if l < i ∧ i ≤ k then Fk K lo xs (i - 1) else Fk K lo xs i := by
  have e := getElem?_bubble hs (lo + k - (lo + l)) (by omega) (lo + i)
  by_cases h1 : i = l
  · rw [if_pos h1]; rw [if_pos (by omega)] at e; exact Fk_congr e
  · rw [if_neg h1]; rw [if_neg (by omega)] at e
    by_cases h2 : l < i ∧ i ≤ k
    · rw [if_pos h2]; rw [if_pos (by omega), show lo + i - 1 = lo + (i - 1) by omega] at e; exact Fk_congr e
    · rw [if_neg h2]; rw [if_neg (by omega)] at e; exact Fk_congr e

section
variable {prog : Program} {w : World} {A : Around} {E : Value → Shared → Prop} {s : Shared} {M : Keyed → Prop} {K : Keyed → Int} {a₀ : Array Keyed} {lo : Nat} {pd : Array (Nat × Nat × Nat)}

theorem wpS_ltF {st : SortSt} {i' j' i j : Nat} {Q : Option Bool → SortSt → Prop} (C : Cmp prog w A s M K) (hM : ∀ x ∈ a₀.toList, M x) (hB : SB a₀ lo pd st) (hi' : i' = lo + i) (hj' : j' = lo + j) (hi : lo + i < a₀.size) (hj : lo + j < a₀.size)
    (h : Q (some (decide (Fk K lo (arrOf st) i < Fk K lo (arrOf st) j))) st) : wpS (model prog w) A E s (ltAt' i' j') Q st := by
  subst hi' hj'
  rw [← hB.size] at hi hj
  rw [Fk_get hi, Fk_get hj] at h
  rw [ltAt'_eq]
  refine wpS_bind (wpS_get ?_)
  show wpS _ _ _ _ (do let x ← elem' (arrOf st) (lo + i); let y ← elem' (arrOf st) (lo + j); lt' x y) Q st
  refine wpS_bind (wpS_elem_ hi (wpS_bind (wpS_elem_ hj ?_)))
  exact wpS_lt_ C hB.kind (hB.mem hM _ (mem_arr hi)) (hB.mem hM _ (mem_arr hj)) h

theorem wpS_rev {st : SortSt} {i' j' i j : Nat} {Q : Unit → SortSt → Prop} (hB : SB a₀ lo pd st) (hi' : i' = lo + i) (hj' : j' = lo + j) (hj : lo + j ≤ a₀.size)
    (h : ∀ st', SB a₀ lo pd st' → (∀ k, Fk K lo (arrOf st') k = if i ≤ k ∧ k < j then Fk K lo (arrOf st) (i + j - 1 - k) else Fk K lo (arrOf st) k) → Q () st') : wpS (model prog w) A E s (reverseSlice' i' j') Q st := by
  subst hi' hj'
  rw [reverseSlice'_eq]
  refine wpS_modify (h _ ⟨(mirror_perm _ _ _ _).trans hB.perm, hB.kind, hB.failed, hB.pend, fun k hk => ?_⟩ fun k => Fk_mirror (by rw [hB.size]; exact hj) k)
  show (mirror (arrOf st) _ _ _)[k]? = _
  rw [getElem?_mirror_all (by rw [hB.size]; exact hj), if_neg (by omega)]
  exact hB.out k hk
/-- a turn about within equal keys changes no key -/
theorem wpS_revSame {st : SortSt} {i' j' i j : Nat} {Q : Unit → SortSt → Prop} (hB : SB a₀ lo pd st) (hi' : i' = lo + i) (hj' : j' = lo + j) (hj : lo + j ≤ a₀.size) (heq : ∀ k, i ≤ k → k < j → Fk K lo (arrOf st) k = Fk K lo (arrOf st) (j - 1))
    (h : ∀ st', SB a₀ lo pd st' → (∀ k, Fk K lo (arrOf st') k = Fk K lo (arrOf st) k) → Q () st') : wpS (model prog w) A E s (reverseSlice' i' j') Q st := by
  refine wpS_rev (K := K) hB hi' hj' hj fun st' h1 h2 => h st' h1 fun k => ?_
  rw [h2]
  split
  · rw [heq _ (by omega) (by omega), heq k (by omega) (by omega)]
  · rfl

theorem wpS_binary {st : SortSt} {n ok : Nat} {Q : Bool → SortSt → Prop} (C : Cmp prog w A s M K) (hM : ∀ x ∈ a₀.toList, M x) (hn : lo + n ≤ a₀.size) (hok : ok ≤ n) (hB : SB a₀ lo pd st) (hs : Up K lo (arrOf st) ok)
    (h : ∀ st', SB a₀ lo pd st' → Up K lo (arrOf st') n → Q true st') : wpS (model prog w) A E s (binarySort' lo n ok) Q st := by
  rw [binarySort'_eq]
  refine wpS_bind (wpS_mono (wpS_forRange (I := fun k c st' => c = (none, ()) ∧ SB a₀ lo pd st' ∧ Up K lo (arrOf st') (min k n))
    (Q := fun c st' => c = (none, ()) ∧ SB a₀ lo pd st' ∧ Up K lo (arrOf st') n) ?step ?fin ?init) ?post)
  case post =>
    rintro c st' ⟨rfl, hB', hs'⟩
    exact wpS_pure (h st' hB' hs')
  case init =>
    refine ⟨rfl, hB, fun i j hij hj => ?_⟩
    by_cases h1 : ok = 0
    · have : i = j := by omega
      subst this; exact Int.le_refl _
    · exact hs i j hij (by omega)
  case fin =>
    rintro c st' ⟨hc, hB', hs'⟩
    refine ⟨hc, hB', ?_⟩
    rwa [show min (max (max ok 1) n) n = n by omega] at hs'
  case step =>
    rintro k c st' hak hkn ⟨rfl, hB', hs'⟩
    rw [show min k n = k by omega] at hs'
    refine wpS_bind (wpS_mono (wpS_forRange (I := fun x c st'' => st'' = st' ∧ c.1 = none ∧ c.2.1 ≤ c.2.2 ∧ c.2.2 ≤ k ∧ c.2.2 - c.2.1 ≤ k - x ∧
        (∀ i, i < c.2.1 → Fk K lo (arrOf st') i ≤ Fk K lo (arrOf st') k) ∧ (∀ i, c.2.2 ≤ i → i < k → Fk K lo (arrOf st') k < Fk K lo (arrOf st') i))
      (Q := fun c st'' => st'' = st' ∧ c.1 = none ∧ c.2.1 ≤ k ∧
        (∀ i, i < c.2.1 → Fk K lo (arrOf st') i ≤ Fk K lo (arrOf st') k) ∧ (∀ i, c.2.1 ≤ i → i < k → Fk K lo (arrOf st') k < Fk K lo (arrOf st') i)) ?istep ?ifin ?iinit) ?ipost)
    case iinit => exact ⟨rfl, rfl, Nat.zero_le _, Nat.le_refl _, by dsimp only; omega, fun i hi => by dsimp only at hi; omega, fun i h1 h2 => by dsimp only at h1; omega⟩
    case ifin =>
      rintro ⟨c1, l, r⟩ st'' ⟨rfl, h0, hlr, hrk, hm, hlo, hhi⟩
      dsimp only at h0 hlr hrk hm hlo hhi ⊢
      have : l = r := by omega
      subst this
      exact ⟨rfl, h0, hrk, hlo, hhi⟩
    case istep =>
      rintro x ⟨c1, l, r⟩ st'' _ hxk ⟨rfl, h0, hlr, hrk, hm, hlo, hhi⟩
      dsimp only at h0 hlr hrk hm hlo hhi ⊢
      by_cases hge : l ≥ r
      · rw [if_pos hge]
        have : l = r := by omega
        subst this
        exact wpS_pure ⟨rfl, rfl, hrk, hlo, hhi⟩
      · rw [if_neg hge]
        refine wpS_bind (wpS_ltF C hM hB' rfl rfl (by omega) (by omega) ?_)
        by_cases hless : Fk K lo (arrOf st'') k < Fk K lo (arrOf st'') ((l + r) / 2)
        · simp only [hless, decide_true, if_true]
          refine wpS_pure ⟨rfl, rfl, by dsimp only; omega, by dsimp only; omega, by dsimp only; omega, hlo, fun i h1 h2 => ?_⟩
          exact Int.lt_of_lt_of_le hless (hs' _ _ h1 h2)
        · simp only [hless, decide_false, Bool.false_eq_true, if_false]
          refine wpS_pure ⟨rfl, rfl, by dsimp only; omega, by dsimp only; omega, by dsimp only; omega, fun i h1 => ?_, hhi⟩
          dsimp only at h1
          exact Int.le_trans (hs' i ((l + r) / 2) (by omega) (by omega)) (Int.not_lt.mp hless)
    case ipost =>
      rintro ⟨c1, l, r⟩ st'' ⟨rfl, h0, hlk, hlo, hhi⟩
      dsimp only at h0 hlk hlo hhi
      subst h0
      show wpS _ _ _ _ (do moveDown' (lo + k) (lo + l); pure (ForInStep.yield (none, ()))) _ _
      rw [moveDown'_eq]
      have hks : lo + k < (arrOf st'').size := by rw [hB'.size]; omega
      refine wpS_bind (wpS_modify (wpS_pure ⟨rfl, ⟨(bubble_perm _ _ _).trans hB'.perm, hB'.kind, hB'.failed, hB'.pend, fun z hz => ?_⟩, ?_⟩))
      · show (bubble (arrOf st'') (lo + k) (lo + k - (lo + l)))[z]? = _
        rw [getElem?_bubble hks _ (by omega), if_neg (by omega), if_neg (by omega)]
        exact hB'.out z hz
      rw [show min (k + 1) n = k + 1 by omega]
      intro i j hij hj
      show Fk K lo (bubble (arrOf st'') (lo + k) (lo + k - (lo + l))) i ≤ Fk K lo (bubble (arrOf st'') (lo + k) (lo + k - (lo + l))) j
      rw [Fk_bubble hks hlk, Fk_bubble hks hlk]
      repeat' split
      all_goals first
        | (exfalso; omega)
        | exact Int.le_refl _
        | exact hlo _ (by omega)
        | exact Int.le_of_lt (hhi _ (by omega) (by omega))
        | exact hs' _ _ (by omega) (by omega)

theorem Up.step {xs : Array Keyed} {x : Nat} (hs : Up K lo xs x) (h : ¬ Fk K lo xs x < Fk K lo xs (x - 1)) : Up K lo xs (x + 1) := fun i j hij hj => by
  by_cases hjx : j < x
  · exact hs i j hij hjx
  · have hj' : j = x := by omega
    subst hj'
    by_cases hi' : i = j
    · subst hi'; exact Int.le_refl _
    · exact Int.le_trans (hs i (j - 1) (by omega) (by omega)) (Int.not_lt.mp h)
theorem Down.step {xs : Array Keyed} {x : Nat} (hs : Down K lo xs x) (h : Fk K lo xs x ≤ Fk K lo xs (x - 1)) : Down K lo xs (x + 1) := fun i j hij hj => by
  by_cases hjx : j < x
  · exact hs i j hij hjx
  · have hj' : j = x := by omega
    subst hj'
    by_cases hi' : i = j
    · subst hi'; exact Int.le_refl _
    · exact Int.le_trans h (hs i (j - 1) (by omega) (by omega))
theorem Up.one {xs : Array Keyed} : Up K lo xs 1 := fun i j hij hj => by
  have : i = j := by omega
  subst this; exact Int.le_refl _
theorem Down.one {xs : Array Keyed} : Down K lo xs 1 := fun i j hij hj => by
  have : i = j := by omega
  subst this; exact Int.le_refl _
theorem Down.congr {xs ys : Array Keyed} {n : Nat} (hs : Down K lo xs n) (h : ∀ k, Fk K lo ys k = Fk K lo xs k) : Down K lo ys n := fun i j hij hj => by
  rw [h, h]; exact hs i j hij hj

theorem wpS_asc {a nrem : Nat} {st : SortSt} {Q : Option (Option Nat) × Nat → SortSt → Prop} (C : Cmp prog w A s M K) (hM : ∀ x ∈ a₀.toList, M x) (hn : lo + nrem ≤ a₀.size) (ha : 1 ≤ a) (han : a ≤ nrem) (hB : SB a₀ lo pd st) (hs : Up K lo (arrOf st) a)
    (h : ∀ n, a ≤ n → n ≤ nrem → Up K lo (arrOf st) n → (n = nrem ∨ Fk K lo (arrOf st) n < Fk K lo (arrOf st) (n - 1)) → Q (none, n) st) :
    wpS (model prog w) A E s (forIn [a:nrem] ((none, a) : Option (Option Nat) × Nat) fun _ c => do
      let x ← ltAt' (lo + c.2) (lo + c.2 - 1)
      match x with
      | some smaller => if smaller = true then pure (ForInStep.done (none, c.2)) else pure (ForInStep.yield (none, c.2 + 1))
      | _ => pure (ForInStep.done (some none, c.2))) Q st := by
  refine wpS_forRange (I := fun x c st' => st' = st ∧ c = (none, x) ∧ Up K lo (arrOf st) x) ?step ?fin ⟨rfl, rfl, hs⟩
  case fin =>
    rintro c st' ⟨rfl, rfl, hs'⟩
    rw [show max a nrem = nrem by omega] at hs' ⊢
    exact h nrem han (Nat.le_refl _) hs' (.inl rfl)
  case step =>
    rintro x c st' hax hxn ⟨rfl, rfl, hs'⟩
    dsimp only
    refine wpS_bind (wpS_ltF (i := x) (j := x - 1) C hM hB rfl (by omega) (by omega) (by omega) ?_)
    by_cases hless : Fk K lo (arrOf st') x < Fk K lo (arrOf st') (x - 1)
    · simp only [hless, decide_true, if_true]
      exact wpS_pure (h x hax (by omega) hs' (.inr hless))
    · simp only [hless, decide_false, Bool.false_eq_true, if_false]
      exact wpS_pure ⟨rfl, rfl, hs'.step hless⟩

theorem wpS_desc {n nrem : Nat} {st : SortSt} {Q : Option (Option Nat) × Nat × Nat → SortSt → Prop} (C : Cmp prog w A s M K) (hM : ∀ x ∈ a₀.toList, M x) (hn : lo + nrem ≤ a₀.size) (h1 : 1 ≤ n) (hnn : n ≤ nrem) (hB : SB a₀ lo pd st) (hs : Down K lo (arrOf st) n)
    (h : ∀ m neq st', SB a₀ lo pd st' → n ≤ m → m ≤ nrem → Down K lo (arrOf st') m → neq + 1 ≤ m → (∀ i, m - (neq + 1) ≤ i → i < m → Fk K lo (arrOf st') i = Fk K lo (arrOf st') (m - 1)) → Q (none, m, neq) st') :
    wpS (model prog w) A E s (forIn [n:nrem] ((none, n, 0) : Option (Option Nat) × Nat × Nat) fun _ c => do
      let x ← ltAt' (lo + c.2.1) (lo + c.2.1 - 1)
      match x with
      | some smaller =>
        if smaller = true then
          if c.2.2 > 0 then do
            reverseSlice' (lo + c.2.1 - (c.2.2 + 1)) (lo + c.2.1)
            pure (ForInStep.yield (none, c.2.1 + 1, 0))
          else pure (ForInStep.yield (none, c.2.1 + 1, 0))
        else do
          let x ← ltAt' (lo + c.2.1 - 1) (lo + c.2.1)
          match x with
          | some larger =>
            if larger = true then pure (ForInStep.done (none, c.2.1, c.2.2))
            else pure (ForInStep.yield (none, c.2.1 + 1, c.2.2 + 1))
          | _ => pure (ForInStep.done (some none, c.2.1, c.2.2))
      | _ => pure (ForInStep.done (some none, c.2.1, c.2.2))) Q st := by
  refine wpS_forRange (I := fun x c st' => ∃ neq, c = (none, x, neq) ∧ SB a₀ lo pd st' ∧ Down K lo (arrOf st') x ∧ neq + 1 ≤ x ∧
      (∀ i, x - (neq + 1) ≤ i → i < x → Fk K lo (arrOf st') i = Fk K lo (arrOf st') (x - 1))) ?step ?fin ⟨0, rfl, hB, hs, by omega, fun i h1 h2 => by congr 1; omega⟩
  case fin =>
    rintro c st' ⟨neq, rfl, hB', hs', hq, he⟩
    rw [show max n nrem = nrem by omega] at hs' hq he ⊢
    exact h nrem neq st' hB' hnn (Nat.le_refl _) hs' hq he
  case step =>
    rintro x c st' hax hxn ⟨neq, rfl, hB', hs', hq, he⟩
    dsimp only
    refine wpS_bind (wpS_ltF (i := x) (j := x - 1) C hM hB' rfl (by omega) (by omega) (by omega) ?_)
    by_cases hless : Fk K lo (arrOf st') x < Fk K lo (arrOf st') (x - 1)
    · simp only [hless, decide_true, if_true]
      have hd := hs'.step (Int.le_of_lt hless)
      by_cases hneq : neq > 0
      · rw [if_pos hneq]
        refine wpS_bind (wpS_revSame (K := K) (i := x - (neq + 1)) (j := x) hB' (by omega) rfl (by omega) he fun st2 hB2 h2 => wpS_pure ⟨0, rfl, hB2, hd.congr h2, by omega, fun i h1 h2 => by congr 1; omega⟩)
      · rw [if_neg hneq]
        exact wpS_pure ⟨0, rfl, hB', hd, by omega, fun i h1 h2 => by congr 1; omega⟩
    · simp only [hless, decide_false, Bool.false_eq_true, if_false]
      refine wpS_bind (wpS_ltF (i := x - 1) (j := x) C hM hB' (by omega) rfl (by omega) (by omega) ?_)
      by_cases hlarger : Fk K lo (arrOf st') (x - 1) < Fk K lo (arrOf st') x
      · simp only [hlarger, decide_true, if_true]
        exact wpS_pure (h x neq st' hB' hax (by omega) hs' hq he)
      · simp only [hlarger, decide_false, Bool.false_eq_true, if_false]
        have heqx : Fk K lo (arrOf st') x = Fk K lo (arrOf st') (x - 1) := by omega
        refine wpS_pure ⟨neq + 1, rfl, hB', hs'.step (by omega), by omega, fun i h1 h2 => ?_⟩
        rw [show x + 1 - 1 = x by omega]
        by_cases hix : i = x
        · subst hix; rfl
        · rw [heqx]; exact he i (by omega) (by omega)

theorem wpS_count {nrem : Nat} {st : SortSt} {Q : Option Nat → SortSt → Prop} (C : Cmp prog w A s M K) (hM : ∀ x ∈ a₀.toList, M x) (hn : lo + nrem ≤ a₀.size) (h1 : 1 ≤ nrem) (hB : SB a₀ lo pd st)
    (h : ∀ m st', SB a₀ lo pd st' → 1 ≤ m → m ≤ nrem → Up K lo (arrOf st') m → Q (some m) st') : wpS (model prog w) A E s (countRun' lo nrem) Q st := by
  rw [countRun'_eq]
  dsimp only
  refine wpS_bind (wpS_asc C hM hn (Nat.le_refl 1) h1 hB Up.one fun n hn1 hn2 hsn hor => ?_)
  dsimp only
  by_cases hnn : n = nrem
  · rw [if_pos (by simpa using hnn)]
    exact wpS_pure (h n st hB hn1 hn2 hsn)
  rw [if_neg (by simpa using hnn)]
  have hlt : Fk K lo (arrOf st) n < Fk K lo (arrOf st) (n - 1) := hor.resolve_left hnn
  by_cases hgt : n > 1
  rw [if_pos hgt]
  refine wpS_bind (wpS_ltF (i := 0) (j := n - 1) C hM hB rfl (by omega) (by omega) (by omega) ?_)
  by_cases hrose : Fk K lo (arrOf st) 0 < Fk K lo (arrOf st) (n - 1)
  · simp only [hrose, decide_true, if_true]
    exact wpS_pure (h n st hB hn1 hn2 hsn)
  simp only [hrose, decide_false, Bool.false_eq_true, if_false]
  have hall : ∀ k, 0 ≤ k → k < n → Fk K lo (arrOf st) k = Fk K lo (arrOf st) (n - 1) := by
    intro k _ hk
    have a1 := hsn 0 k (by omega) hk
    have a2 := hsn k (n - 1) (by omega) (by omega)
    omega
  refine wpS_bind (wpS_revSame (K := K) (i := 0) (j := n) hB rfl rfl (by omega) hall fun st2 hB2 h2 => ?_)
  have hd : Down K lo (arrOf st2) (n + 1) := by
    refine Down.congr (Down.step (fun i j hij hj => ?_) (Int.le_of_lt hlt)) h2
    rw [hall i (by omega) (by omega), hall j (by omega) hj]; exact Int.le_refl _
  clear hB h2
  rotate_left
  rw [if_neg hgt]
  have hd : Down K lo (arrOf st) (n + 1) := by
    have : n = 1 := by omega
    subst this
    exact Down.one.step (Int.le_of_lt hlt)
  have hB2 := hB
  generalize st = st2 at hd hB2 ⊢
  rotate_left
  all_goals
    refine wpS_bind (wpS_lift (wpAny_rule ⟨rfl, ?_⟩))
    refine wpS_bind (wpS_desc C hM hn (by omega) (by omega) hB2 hd fun m neq st3 hB3 hm1 hm2 hd3 hq he => ?_)
    dsimp only
    by_cases hneq : neq > 0
    rw [if_pos hneq]
    refine wpS_bind (wpS_revSame (K := K) (i := m - (neq + 1)) (j := m) hB3 (by omega) rfl (by omega) he fun st4 hB4 h4 => ?_)
    have hd4 := hd3.congr h4
    clear hB3 hd3 he h4 hneq
    rotate_left
    rw [if_neg hneq]
    have hd4 := hd3
    have hB4 := hB3
    generalize st3 = st4 at hd4 hB4 ⊢
    rotate_left
    all_goals
      refine wpS_bind (wpS_rev (K := K) (i := 0) (j := m) hB4 rfl rfl (by omega) fun st5 hB5 h5 => ?_)
      have hu : Up K lo (arrOf st5) m := fun i j hij hj => by
        rw [h5, h5, if_pos (by omega), if_pos (by omega)]
        exact hd4 _ _ (by omega) (by omega)
      refine wpS_bind (wpS_asc C hM hn (by omega) hm2 hB5 hu fun m6 h61 h62 h63 _ => ?_)
      exact wpS_pure (h m6 st5 hB5 (by omega) h62 h63)
end
end Mine
end

section -- So5
open PySem PySem.W PyProof.Rows PySem.Calls
set_option Elab.async false
set_option maxRecDepth 100000
set_option maxHeartbeats 4000000
set_option linter.unusedVariables false
namespace Mine

theorem put_at {α : Type} : ∀ (l : List α) (sa n : Nat) (arr : Array α), sa + n + l.length ≤ arr.size →
    ((l.zipIdx n).foldl (fun a p => a.setIfInBounds (sa + p.2) p.1) arr).toList = arr.toList.take (sa + n) ++ l ++ arr.toList.drop (sa + n + l.length)
  | [], sa, n, arr, _ => by simp
  | x :: l, sa, n, arr, h => by
    simp only [List.length_cons] at h
    rw [List.zipIdx_cons, List.foldl_cons, put_at l sa (n + 1) _ (by simp; omega)]
    simp only [Array.toList_setIfInBounds, List.length_cons]
    have h1 : (arr.toList.set (sa + n) x).take (sa + (n + 1)) = arr.toList.take (sa + n) ++ [x] := by
      rw [← Nat.add_assoc, List.take_add_one, List.take_set_of_le (Nat.le_refl _), List.getElem?_set_self (by simp; omega)]
      rfl
    have h2 : (arr.toList.set (sa + n) x).drop (sa + (n + 1) + l.length) = arr.toList.drop (sa + n + (l.length + 1)) := by
      rw [List.drop_set_of_lt (by omega)]
      congr 1; omega
    rw [h1, h2, List.append_assoc, List.append_assoc, List.append_assoc]
    rfl

section
variable {prog : Program} {w : World} {A : Around} {E : Value → Shared → Prop} {s : Shared} {M : Keyed → Prop} {K : Keyed → Int} {a₀ : Array Keyed} {lo : Nat} {pd : Array (Nat × Nat × Nat)}

theorem wpS_set {st st2 : SortSt} {Q : PUnit → SortSt → Prop} (h : Q ⟨⟩ st2) : wpS (model prog w) A E s (set st2 : StateT SortSt Sem PUnit) Q st := by
  unfold wpS
  rw [StateT.run_set]
  exact wpAny_pure ⟨rfl, h⟩

theorem gallop_rightU {key : Keyed} {a : Array Keyed} {base n hint : Nat} {st : SortSt} {Q : Option Nat → SortSt → Prop} (C : Cmp prog w A s M K) (hs : kindOf st = oneType') (hk : M key) (ha : ∀ x ∈ a.toList, M x) (sa : Up K base a n) (hn : base + n ≤ a.size) (hh : hint < n)
    (q : ∀ k, k ≤ n → (∀ i, i < k → Fk K base a i ≤ K key) → (∀ i, k ≤ i → i < n → K key < Fk K base a i) → Q (some k) st) : wpS (model prog w) A E s (gallop' false key a base n hint) Q st := by
  refine wpS_gallop_ (fun i => !decide (K key < Fk K base a i)) (fun i hi Q' q' => ?_) (fun i j hij hj h => ?_) hh fun k h1 h2 h3 => q k h1 (fun i hi => ?_) (fun i hi hi' => ?_)
  · have hb : base + i < a.size := by omega
    rw [Fk_get hb] at q'
    refine wpS_bind (wpS_elem_ hb ?_)
    rw [if_neg (by simp)]
    exact wpS_bind (wpS_lt_ C hs hk (ha _ (mem_arr hb)) (wpS_pure q'))
  · have := sa i j hij hj
    simp only [Bool.not_eq_true', decide_eq_false_iff_not] at h ⊢
    omega
  · have := h2 i hi
    simp only [Bool.not_eq_true', decide_eq_false_iff_not] at this
    omega
  · have := h3 i hi hi'
    simpa using this
theorem gallop_leftU {key : Keyed} {a : Array Keyed} {base n hint : Nat} {st : SortSt} {Q : Option Nat → SortSt → Prop} (C : Cmp prog w A s M K) (hs : kindOf st = oneType') (hk : M key) (ha : ∀ x ∈ a.toList, M x) (sa : Up K base a n) (hn : base + n ≤ a.size) (hh : hint < n)
    (q : ∀ k, k ≤ n → (∀ i, i < k → Fk K base a i < K key) → (∀ i, k ≤ i → i < n → K key ≤ Fk K base a i) → Q (some k) st) : wpS (model prog w) A E s (gallop' true key a base n hint) Q st := by
  refine wpS_gallop_ (fun i => decide (Fk K base a i < K key)) (fun i hi Q' q' => ?_) (fun i j hij hj h => ?_) hh fun k h1 h2 h3 => q k h1 (fun i hi => ?_) (fun i hi hi' => ?_)
  · have hb : base + i < a.size := by omega
    rw [Fk_get hb] at q'
    refine wpS_bind (wpS_elem_ hb ?_)
    rw [if_pos rfl]
    exact wpS_lt_ C hs (ha _ (mem_arr hb)) hk q'
  · have := sa i j hij hj
    simp only [decide_eq_true_eq] at h ⊢
    omega
  · have := h2 i hi
    simpa using this
  · have := h3 i hi hi'
    simp only [decide_eq_false_iff_not] at this
    omega

theorem Up.srt {xs : Array Keyed} {lo n m k : Nat} (h : Up K lo xs n) (hm : lo ≤ m) (hk : k ≤ lo + n) (hsz : lo + n ≤ xs.size) : Srt K (xs.extract m k).toList := by
  refine List.pairwise_iff_getElem.mpr fun i j hi hj hij => ?_
  have hi' : i < (xs.extract m k).size := hi
  have hj' : j < (xs.extract m k).size := hj
  rw [Array.size_extract] at hi' hj'
  have := h (m + i - lo) (m + j - lo) (by omega) (by omega)
  rw [Fk_get (by omega), Fk_get (by omega)] at this
  simp only [show lo + (m + i - lo) = m + i by omega, show lo + (m + j - lo) = m + j by omega] at this
  simpa using this

theorem at_get {xs : Array Keyed} {j : Nat} (h : j < xs.size) : Fk K 0 xs j = K xs[j] := by
  unfold Fk; rw [Nat.zero_add, getElem?_pos xs _ h]
theorem at_lo {xs : Array Keyed} {lo j : Nat} : Fk K lo xs j = Fk K 0 xs (lo + j) := by
  unfold Fk; rw [Nat.zero_add]
theorem mem_extract_ {a : Array Keyed} {m k : Nat} {y : Keyed} (h : y ∈ (a.extract m k).toList) : ∃ j, m ≤ j ∧ j < k ∧ j < a.size ∧ Fk K 0 a j = K y := by
  obtain ⟨i, hi, rfl⟩ := List.getElem_of_mem h
  have hi' : i < (a.extract m k).size := hi
  rw [Array.size_extract] at hi'
  refine ⟨m + i, by omega, by omega, by omega, ?_⟩
  rw [at_get (K := K) (by omega)]
  simp
theorem srt_up {xs : Array Keyed} (h : Srt K xs.toList) : Up K 0 xs xs.size := fun i j hij hj => by
  rw [at_get (K := K) (by omega), at_get (K := K) hj]
  exact srt_get h hij hj

/-- the merged middle is put back between what stood -/
theorem merged_up {xs r R : Array Keyed} {n1 n2 k nb : Nat} (u1 : Up K 0 xs n1) (u2 : Up K n1 xs n2) (hn : n1 + n2 = xs.size) (hk : k ≤ n1) (hnb : nb ≤ n2) (h2 : 1 ≤ n2) (h1 : 1 ≤ n1)
    (g1 : ∀ i, i < k → Fk K 0 xs i ≤ Fk K 0 xs n1) (g2 : ∀ i, n1 + nb ≤ i → i < n1 + n2 → Fk K 0 xs (n1 - 1) ≤ Fk K 0 xs i)
    (d : Done K (xs.extract k n1) (xs.extract n1 (n1 + nb)) r) (hR : R.toList = xs.toList.take k ++ r.toList ++ xs.toList.drop (n1 + nb)) : R.Perm xs ∧ Up K 0 R xs.size := by
  have U2 : ∀ i j, n1 ≤ i → i ≤ j → j < n1 + n2 → Fk K 0 xs i ≤ Fk K 0 xs j := fun i j hi hij hj => by
    have := u2 (i - n1) (j - n1) (by omega) (by omega)
    rwa [at_lo (lo := n1), at_lo (lo := n1), show n1 + (i - n1) = i by omega, show n1 + (j - n1) = j by omega] at this
  have eX : (xs.extract k n1).toList = (xs.toList.take n1).drop k := by
    simp only [Array.toList_extract, List.extract_eq_take_drop, List.drop_take]
  have eY : (xs.extract n1 (n1 + nb)).toList = (xs.toList.drop n1).take nb := by
    simp only [Array.toList_extract, List.extract_eq_take_drop, Nat.add_sub_cancel_left]
  have perm : R.Perm xs := by
    rw [Array.perm_iff_toList_perm, hR]
    have h0 := d.1
    rw [eX, eY] at h0
    rw [List.perm_iff_count] at h0 ⊢
    intro z
    have a1 := h0 z
    have a2 := congrArg (List.count z) (List.take_append_drop n1 xs.toList)
    have a3 := congrArg (List.count z) (List.take_append_drop k (xs.toList.take n1))
    have a4 := congrArg (List.count z) (List.take_append_drop nb (xs.toList.drop n1))
    rw [List.take_take, show min k n1 = k by omega] at a3
    rw [List.drop_drop] at a4
    simp only [List.count_append] at a1 a2 a3 a4 ⊢
    omega
  refine ⟨perm, ?_⟩
  rw [← perm.size_eq]
  refine srt_up ?_
  unfold Srt
  rw [hR]
  have hm : ∀ y ∈ r.toList, ∃ j, k ≤ j ∧ j < n1 + nb ∧ Fk K 0 xs j = K y := fun y hy => by
    rcases List.mem_append.mp (d.1.mem_iff.mp hy) with h | h
    · obtain ⟨j, j1, j2, _, j4⟩ := mem_extract_ (K := K) h
      exact ⟨j, j1, by omega, j4⟩
    · obtain ⟨j, j1, j2, _, j4⟩ := mem_extract_ (K := K) h
      exact ⟨j, by omega, j2, j4⟩
  have s0 : Srt K (xs.toList.take k) := by
    have := u1.srt (m := 0) (k := k) (Nat.le_refl _) (by omega) (by omega)
    rwa [extract_first] at this
  have s2 : Srt K (xs.toList.drop (n1 + nb)) := by
    have := u2.srt (m := n1 + nb) (k := xs.size) (by omega) (by omega) (by omega)
    rwa [extract_rest] at this
  have c1 : ∀ x ∈ xs.toList.take k, ∀ j, k ≤ j → j < n1 + n2 → K x ≤ Fk K 0 xs j := fun x hx j hj hj2 => by
    obtain ⟨i, hi, hik, rfl⟩ := mem_take_ hx
    rw [← at_get (K := K) hi]
    rcases Nat.lt_or_ge j n1 with h | h
    · exact u1 i j (by omega) h
    · exact Int.le_trans (g1 i hik) (U2 n1 j (Nat.le_refl _) h hj2)
  refine List.pairwise_append.mpr ⟨List.pairwise_append.mpr ⟨s0, d.2, fun x hx y hy => ?_⟩, s2, fun x hx y hy => ?_⟩
  · obtain ⟨j, j1, j2, j3⟩ := hm y hy
    rw [← j3]
    exact c1 x hx j j1 (by omega)
  · obtain ⟨j, hj, hij, rfl⟩ := mem_drop_ hy
    rw [← at_get (K := K) hj]
    rcases List.mem_append.mp hx with hx | hx
    · exact c1 x hx j (by omega) (by omega)
    · obtain ⟨i, i1, i2, i3⟩ := hm x hx
      rw [← i3]
      rcases Nat.lt_or_ge i n1 with h | h
      · exact Int.le_trans (u1 i (n1 - 1) (by omega) (by omega)) (g2 j hij (by omega))
      · exact U2 i j h (by omega) (by omega)

theorem wpS_mergeAt {n1 n2 p1 p2 : Nat} {st : SortSt} {Q : Bool → SortSt → Prop} (C : Cmp prog w A s M K) (hM : ∀ x ∈ a₀.toList, M x) (hB : SB a₀ 0 #[(0, n1, p1), (n1, n2, p2)] st) (h1 : 1 ≤ n1) (h2 : 1 ≤ n2) (hn : n1 + n2 = a₀.size)
    (u1 : Up K 0 (arrOf st) n1) (u2 : Up K n1 (arrOf st) n2)
    (q : ∀ st', SB a₀ 0 #[(0, n1 + n2, p1)] st' → Up K 0 (arrOf st') a₀.size → Q true st') : wpS (model prog w) A E s (mergeAt' 0) Q st := by
  have hsz := hB.size
  have hMs := hB.mem hM
  unfold mergeAt'
  k_delta "mergeAt"
  obtain ⟨kd, xs, pend, mg, fl⟩ := st
  obtain ⟨perm, kind, failed, pend', out⟩ := hB
  dsimp only [arrOf, PyProof.Rows.kindOf, failedOf, pendingOf] at *
  subst kind failed pend'
  refine wpS_bind (wpS_get ?_)
  simp only [List.getElem?_toArray, List.getElem?_cons_zero, List.getElem?_cons_succ, Nat.zero_add]
  have hpd : (#[(0, n1, p1), (n1, n2, p2)].setIfInBounds 0 (0, n1 + n2, p1)).eraseIdxIfInBounds 1 = #[(0, n1 + n2, p1)] := by
    apply Array.ext'
    simp [Array.eraseIdxIfInBounds]
  rw [hpd]
  refine wpS_bind (wpS_set ?_)
  have hb0 : n1 < xs.size := by omega
  refine wpS_bind (wpS_elem_ hb0 ?_)
  refine wpS_bind (gallop_rightU C rfl (hMs _ (mem_arr hb0)) hMs u1 (by omega) (by omega) fun k hk e1 e2 => ?_)
  dsimp only
  rw [← at_get (K := K) hb0] at e1 e2
  have hU2 : ∀ i j, n1 ≤ i → i ≤ j → j < n1 + n2 → Fk K 0 xs i ≤ Fk K 0 xs j := fun i j hi hij hj => by
    have := u2 (i - n1) (j - n1) (by omega) (by omega)
    rwa [at_lo (lo := n1), at_lo (lo := n1), show n1 + (i - n1) = i by omega, show n1 + (j - n1) = j by omega] at this
  by_cases hk0 : n1 - k = 0
  · rw [if_pos (by simpa using hk0)]
    refine wpS_pure (q _ ⟨perm, rfl, rfl, rfl, out⟩ fun i j hij hj => ?_)
    show Fk K 0 xs i ≤ Fk K 0 xs j
    rcases Nat.lt_or_ge j n1 with h | h
    · exact u1 i j hij h
    · rcases Nat.lt_or_ge i n1 with h' | h'
      · exact Int.le_trans (e1 i (by omega)) (hU2 n1 j (Nat.le_refl _) h (by omega))
      · exact hU2 i j h' hij (by omega)
  rw [if_neg (by simpa using hk0)]
  have hal : k + (n1 - k) - 1 < xs.size := by omega
  refine wpS_bind (wpS_elem_ hal ?_)
  refine wpS_bind (gallop_leftU C rfl (hMs _ (mem_arr hal)) hMs u2 (by omega) (by omega) fun nb hnb e3 e4 => ?_)
  dsimp only
  rw [← at_get (K := K) hal, show k + (n1 - k) - 1 = n1 - 1 by omega] at e3 e4
  have e3' : ∀ i, n1 ≤ i → i < n1 + nb → Fk K 0 xs i < Fk K 0 xs (n1 - 1) := fun i h h' => by
    have := e3 (i - n1) (by omega)
    rwa [at_lo (lo := n1), show n1 + (i - n1) = i by omega] at this
  have e4' : ∀ i, n1 + nb ≤ i → i < n1 + n2 → Fk K 0 xs (n1 - 1) ≤ Fk K 0 xs i := fun i h h' => by
    have := e4 (i - n1) (by omega) (by omega)
    rwa [at_lo (lo := n1), show n1 + (i - n1) = i by omega] at this
  by_cases hnb0 : nb = 0
  · exfalso
    have := e4' n1 (by omega) (by omega)
    have := e2 (n1 - 1) (by omega) (by omega)
    omega
  rw [if_neg (by simpa using hnb0)]
  have sx : (xs.extract k n1).size = n1 - k := by rw [Array.size_extract]; omega
  have sy : (xs.extract n1 (n1 + nb)).size = nb := by rw [Array.size_extract]; omega
  have mx : ∀ x ∈ (xs.extract k n1).toList, M x := fun x hx => hMs x (by
    simp only [Array.toList_extract, List.extract_eq_take_drop] at hx
    exact List.mem_of_mem_drop (List.mem_of_mem_take hx))
  have my : ∀ x ∈ (xs.extract n1 (n1 + nb)).toList, M x := fun x hx => hMs x (by
    simp only [Array.toList_extract, List.extract_eq_take_drop] at hx
    exact List.mem_of_mem_drop (List.mem_of_mem_take hx))
  have ssx : Srt K (xs.extract k n1).toList := u1.srt (by omega) (by omega) (by omega)
  have ssy : Srt K (xs.extract n1 (n1 + nb)).toList := u2.srt (by omega) (by omega) (by omega)
  have hf : ∀ (h : 0 < (xs.extract n1 (n1 + nb)).size) (h' : 0 < (xs.extract k n1).size), K (xs.extract n1 (n1 + nb))[0] ≤ K (xs.extract k n1)[0] := fun h h' => by
    have := e2 k (Nat.le_refl _) (by omega)
    rw [at_get (K := K) hb0, at_get (K := K) (show k < xs.size by omega)] at this
    simpa using Int.le_of_lt this
  have hl : ∀ (h : (xs.extract k n1).size - 1 < (xs.extract k n1).size), ∀ y ∈ (xs.extract n1 (n1 + nb)).toList, K y ≤ K (xs.extract k n1)[(xs.extract k n1).size - 1] := fun h y hy => by
    obtain ⟨j, j1, j2, _, j4⟩ := mem_extract_ (K := K) hy
    have := e3' j j1 j2
    rw [j4, at_get (K := K) (show n1 - 1 < xs.size by omega)] at this
    have e : (xs.extract k n1)[(xs.extract k n1).size - 1] = xs[n1 - 1] := by
      simp only [Array.getElem_extract]
      congr 1; omega
    rw [e]
    exact Int.le_of_lt this
  have fin : ∀ (r : Array Keyed) (st' : SortSt), Done K (xs.extract k n1) (xs.extract n1 (n1 + nb)) r → Sb xs #[(0, n1 + n2, p1)] st' →
      wpS (model prog w) A E s (do
        modify fun (s : SortSt) => setArr s (List.foldl (fun a x => a.setIfInBounds (k + x.snd) x.fst) (arrOf s) r.toList.zipIdx)
        let s' ← get
        pure (failedOf s').isNone) Q st' := by
    intro r st' d hs'
    refine wpS_bind (wpS_modify (wpS_bind (wpS_get (wpS_pure ?_))))
    have hlen : r.toList.length = (n1 - k) + nb := by
      have := d.1.length_eq
      rw [List.length_append, Array.length_toList, Array.length_toList, Array.length_toList, sx, sy] at this
      rw [Array.length_toList]; exact this
    have e5 := put_at r.toList k 0 xs (by omega)
    rw [hlen] at e5
    simp only [Nat.add_zero, show k + (n1 - k + nb) = n1 + nb by omega] at e5
    obtain ⟨p, u⟩ := merged_up u1 u2 (by omega) hk hnb h2 h1 e1 e4' d e5
    show Q (failedOf st').isNone (setArr st' _)
    rw [hs'.failed]
    refine q _ ⟨?_, hs'.kind, hs'.failed, hs'.pend, fun k hk => by omega⟩ ?_
    · show Array.Perm (List.foldl _ (arrOf st') _) _
      rw [hs'.arr]
      exact p.trans perm
    · show Up K 0 (List.foldl _ (arrOf st') _) _
      rw [hs'.arr, ← hsz]
      exact u
  by_cases hle : n1 - k ≤ nb
  · rw [if_pos hle]
    exact wpS_bind (wpS_mergeLo_ C ⟨rfl, rfl, rfl, rfl⟩ mx my ssx ssy (by omega) (by omega) (hf _ _) hl fun r st' d hs' => fin r st' d hs')
  · rw [if_neg hle]
    exact wpS_bind (wpS_mergeHi_ C ⟨rfl, rfl, rfl, rfl⟩ mx my ssx ssy (by omega) (by omega) (hf _ _) hl fun r st' d hs' => fin r st' d hs')
end
end Mine
end

section -- So6
open PySem PySem.W PyProof.Rows PySem.Calls
set_option Elab.async false
set_option maxRecDepth 100000
set_option maxHeartbeats 4000000
set_option linter.unusedVariables false
namespace Mine
section
variable {prog : Program} {w : World} {A : Around} {E : Value → Shared → Prop} {s : Shared} {M : Keyed → Prop} {K : Keyed → Int} {a₀ : Array Keyed} {lo : Nat} {pd : Array (Nat × Nat × Nat)}

theorem minrun_ (N : Nat) (h1 : 1 ≤ N) (h2 : N < 128) : 1 ≤ minRun' N N 0 ∧ minRun' N N 0 ≤ N ∧ N ≤ 2 * minRun' N N 0 := by
  obtain ⟨f, hf⟩ : ∃ f, N = f + 1 := ⟨N - 1, by omega⟩
  have e : minRun' N N 0 = minRun' (f + 1) N 0 := by rw [← hf]
  rw [e, minRun'_succ]
  by_cases h : N < 64
  · rw [if_pos h]; omega
  · rw [if_neg h]
    obtain ⟨g, hg⟩ : ∃ g, f = g + 1 := ⟨f - 1, by omega⟩
    rw [hg, minRun'_succ, if_pos (by omega)]
    omega

theorem Up.keep {xs ys : Array Keyed} {n m : Nat} (h : Up K 0 xs n) (hm : n ≤ m) (e : ∀ k, k < m → ys[k]? = xs[k]?) : Up K 0 ys n := fun i j hij hj => by
  have e1 : Fk K 0 ys i = Fk K 0 xs i := Fk_congr (e (0 + i) (by omega))
  have e2 : Fk K 0 ys j = Fk K 0 xs j := Fk_congr (e (0 + j) (by omega))
  rw [e1, e2]; exact h i j hij hj

theorem wpS_runs {st : SortSt} {Q : Unit → SortSt → Prop} (C : Cmp prog w A s M K) (hM : ∀ x ∈ a₀.toList, M x) (hB : SB a₀ 0 #[] st) (h2 : 2 ≤ a₀.size) (h64 : a₀.size < 128)
    (h : ∀ st', (arrOf st').Perm a₀ → failedOf st' = none → Up K 0 (arrOf st') a₀.size → Q () st') : wpS (model prog w) A E s sortRuns' Q st := by
  obtain ⟨r1, r2, r3⟩ := minrun_ a₀.size (by omega) h64
  rw [sortRuns'_eq]
  refine wpS_bind (wpS_get ?_)
  dsimp only
  simp only [hB.size]
  generalize minRun' a₀.size a₀.size 0 = mr at r1 r2 r3 ⊢
  refine wpS_bind (wpS_mono (wpS_forRange
    (I := fun x c st' => (x = 0 ∧ c = (none, 0) ∧ SB a₀ 0 #[] st') ∨
      (x = 1 ∧ ∃ n1, mr ≤ n1 ∧ n1 ≤ a₀.size ∧ c = (none, n1) ∧ SB a₀ 0 #[(0, n1, 0)] st' ∧ Up K 0 (arrOf st') n1) ∨
      (x = 2 ∧ ∃ n1 n2 p1, 1 ≤ n1 ∧ 1 ≤ n2 ∧ n1 + n2 = a₀.size ∧ c = (none, a₀.size) ∧ SB a₀ 0 #[(0, n1, p1), (n1, n2, 0)] st' ∧ Up K 0 (arrOf st') n1 ∧ Up K n1 (arrOf st') n2))
    (Q := fun c st' => c.1 = none ∧ ((SB a₀ 0 #[(0, a₀.size, 0)] st' ∧ Up K 0 (arrOf st') a₀.size) ∨
      (∃ n1 n2 p1, 1 ≤ n1 ∧ 1 ≤ n2 ∧ n1 + n2 = a₀.size ∧ SB a₀ 0 #[(0, n1, p1), (n1, n2, 0)] st' ∧ Up K 0 (arrOf st') n1 ∧ Up K n1 (arrOf st') n2))) ?step ?fin (.inl ⟨rfl, rfl, hB⟩)) ?post)
  case fin =>
    rintro c st' (⟨hx, _, _⟩ | ⟨hx, _⟩ | ⟨hx, n1, n2, p1, a1, a2, a3, rfl, a4, a5, a6⟩)
    · omega
    · omega
    · exact ⟨rfl, .inr ⟨n1, n2, p1, a1, a2, a3, a4, a5, a6⟩⟩
  case step =>
    rintro x c st' _ hx (⟨rfl, rfl, hB'⟩ | ⟨rfl, n1, b1, b2, rfl, hB', hu⟩ | ⟨rfl, n1, n2, p1, a1, a2, a3, rfl, a4, a5, a6⟩)
    · dsimp only
      rw [if_neg (by omega)]
      refine wpS_bind (wpS_count C hM (by omega) (by omega) hB' fun m st2 hB2 hm1 hm2 hs2 => ?_)
      dsimp only
      have last : ∀ (st3 : SortSt) (n : Nat), SB a₀ 0 #[] st3 → Up K 0 (arrOf st3) n → mr ≤ n → n ≤ a₀.size → SB a₀ 0 #[(0, n, 0)] (setPending st3 ((pendingOf st3).push (0, n, 0))) := fun st3 n hB3 _ _ _ =>
        ⟨hB3.perm, hB3.kind, hB3.failed, by show (pendingOf st3).push _ = _; rw [hB3.pend]; rfl, hB3.out⟩
      by_cases hlt : m < mr
      · rw [if_pos hlt]
        refine wpS_bind (wpS_lift (wpAny_rule ⟨rfl, ?_⟩))
        rw [show min (a₀.size - 0) mr = mr by omega]
        refine wpS_bind (wpS_binary C hM (by omega) (by omega) hB2 hs2 fun st3 hB3 hs3 => ?_)
        simp only [Bool.not_true, Bool.false_eq_true, if_false]
        refine wpS_bind (wpS_get ?_)
        have hb : (pendingOf st3).back? = none := by rw [hB3.pend]; rfl
        rw [hb]
        dsimp only
        exact wpS_bind (wpS_modify (wpS_pure (.inr (.inl ⟨by trivial, mr, Nat.le_refl _, r2, by rw [Nat.zero_add], last st3 mr hB3 hs3 (Nat.le_refl _) r2, hs3⟩))))
      · rw [if_neg hlt]
        refine wpS_bind (wpS_get ?_)
        have hb : (pendingOf st2).back? = none := by rw [hB2.pend]; rfl
        rw [hb]
        dsimp only
        exact wpS_bind (wpS_modify (wpS_pure (.inr (.inl ⟨by trivial, m, by omega, by omega, by rw [Nat.zero_add], last st2 m hB2 hs2 (by omega) (by omega), hs2⟩))))
    · dsimp only
      by_cases hge : n1 ≥ a₀.size
      · rw [if_pos hge]
        have : n1 = a₀.size := by omega
        subst this
        exact wpS_pure ⟨rfl, .inl ⟨hB', hu⟩⟩
      rw [if_neg hge]
      have hB1 : SB (arrOf st') n1 #[(0, n1, 0)] st' := ⟨Array.Perm.refl _, hB'.kind, hB'.failed, hB'.pend, fun _ _ => rfl⟩
      have hM1 := hB'.mem hM
      have hsz := hB'.size
      refine wpS_bind (wpS_count C hM1 (by omega) (by omega) hB1 fun m st2 hB2 hm1 hm2 hs2 => ?_)
      dsimp only
      have rest : ∀ (st3 : SortSt), SB (arrOf st') n1 #[(0, n1, 0)] st3 → Up K n1 (arrOf st3) (a₀.size - n1) →
          SB a₀ 0 #[(0, n1, 0)] st3 ∧ Up K 0 (arrOf st3) n1 := fun st3 hB3 hs3 =>
        ⟨⟨hB3.perm.trans hB'.perm, hB3.kind, hB3.failed, hB3.pend, fun k hk => by omega⟩, hu.keep (Nat.le_refl _) hB3.out⟩
      by_cases hlt : m < mr
      rw [if_pos hlt]
      refine wpS_bind (wpS_lift (wpAny_rule ⟨rfl, ?_⟩))
      rw [show min (a₀.size - n1) mr = a₀.size - n1 by omega]
      refine wpS_bind (wpS_binary C hM1 (by omega) (by omega) hB2 hs2 fun st3 hB3 hs3 => ?_)
      simp only [Bool.not_true, Bool.false_eq_true, if_false]
      obtain ⟨hB4, hs4⟩ : SB (arrOf st') n1 #[(0, n1, 0)] st3 ∧ Up K n1 (arrOf st3) (a₀.size - n1) := ⟨hB3, hs3⟩
      generalize hm4 : a₀.size - n1 = m4 at hs4 ⊢
      generalize st3 = st4 at hB4 hs4 ⊢
      rotate_left
      rw [if_neg hlt]
      have hm4 : a₀.size - n1 = m := by omega
      obtain ⟨hB4, hs4⟩ : SB (arrOf st') n1 #[(0, n1, 0)] st2 ∧ Up K n1 (arrOf st2) m := ⟨hB2, hs2⟩
      generalize m = m4 at hm4 hs4 ⊢
      generalize st2 = st4 at hB4 hs4 ⊢
      rotate_left
      all_goals
        refine wpS_bind (wpS_get ?_)
        have hb : (pendingOf st4).back? = some (0, n1, 0) := by rw [hB4.pend]; rfl
        rw [hb]
        dsimp only
        refine wpS_bind (wpS_mono (wpS_forRange (I := fun _ c st'' => st'' = st4 ∧ c = (none, ())) (Q := fun c st'' => st'' = st4 ∧ c = (none, ())) ?_ (fun _ _ hh => hh) ⟨rfl, rfl⟩) ?_)
        · rintro x c st'' _ _ ⟨rfl, rfl⟩
          refine wpS_bind (wpS_get ?_)
          rw [hB4.pend]
          exact wpS_pure ⟨rfl, rfl⟩
        · rintro c st'' ⟨rfl, rfl⟩
          dsimp only
          refine wpS_bind (wpS_modify (wpS_bind (wpS_modify (wpS_pure (.inr (.inr ⟨by trivial, n1, m4, power' a₀.size (2 * 0 + n1) (2 * 0 + n1 + n1 + m4) a₀.size, by omega, by omega, by omega, ?_, ⟨?_, hB4.kind, hB4.failed, ?_, fun k hk => by omega⟩, ?_, hs4⟩))))))
          · show ((none, n1 + m4) : Option Unit × Nat) = _
            rw [show n1 + m4 = a₀.size by omega]
          · exact hB4.perm.trans hB'.perm
          · show ((pendingOf st'').modify ((pendingOf st'').size - 1) _).push _ = _
            rw [hB4.pend]
            rfl
          · exact hu.keep (Nat.le_refl _) hB4.out
    · dsimp only
      rw [if_pos (Nat.le_refl _)]
      exact wpS_pure ⟨rfl, .inr ⟨n1, n2, p1, a1, a2, a3, a4, a5, a6⟩⟩
  case post =>
    rintro ⟨c1, lo⟩ st' ⟨h0, hh⟩
    dsimp only at h0
    subst h0
    dsimp only
    refine wpS_bind (wpS_mono (wpS_forRange (I := fun x c st'' => c = (none, ()) ∧ ((SB a₀ 0 #[(0, a₀.size, 0)] st'' ∧ Up K 0 (arrOf st'') a₀.size) ∨
      (x = 0 ∧ ∃ n1 n2 p1, 1 ≤ n1 ∧ 1 ≤ n2 ∧ n1 + n2 = a₀.size ∧ SB a₀ 0 #[(0, n1, p1), (n1, n2, 0)] st'' ∧ Up K 0 (arrOf st'') n1 ∧ Up K n1 (arrOf st'') n2) ∨ (∃ p, SB a₀ 0 #[(0, a₀.size, p)] st'' ∧ Up K 0 (arrOf st'') a₀.size)))
      (Q := fun c st'' => c = (none, ()) ∧ ∃ p, SB a₀ 0 #[(0, a₀.size, p)] st'' ∧ Up K 0 (arrOf st'') a₀.size) ?_ ?_ ?_) ?_)
    · rintro x c st'' _ hx ⟨rfl, hh⟩
      have one : ∀ p, SB a₀ 0 #[(0, a₀.size, p)] st'' → (pendingOf st'').size ≤ 1 := fun p hp => by rw [hp.pend]; exact Nat.le_refl 1
      refine wpS_bind (wpS_get ?_)
      rcases hh with ⟨hD, hu⟩ | ⟨rfl, n1, n2, p1, a1, a2, a3, a4, a5, a6⟩ | ⟨p, hD, hu⟩
      · rw [if_pos (one _ hD)]
        exact wpS_pure ⟨rfl, 0, hD, hu⟩
      · rw [a4.pend]
        rw [if_neg (by show ¬ 2 ≤ 1; omega)]
        refine wpS_bind (wpS_mergeAt C hM a4 a1 a2 a3 a5 a6 fun st3 h3 h4 => ?_)
        rw [a3] at h3
        exact wpS_pure ⟨rfl, .inr (.inr ⟨p1, h3, h4⟩)⟩
      · rw [if_pos (one _ hD)]
        exact wpS_pure ⟨rfl, p, hD, hu⟩
    · rintro c st'' ⟨rfl, hh⟩
      rcases hh with ⟨hD, hu⟩ | ⟨hx, _⟩ | ⟨p, hD, hu⟩
      · exact ⟨rfl, 0, hD, hu⟩
      · omega
      · exact ⟨rfl, p, hD, hu⟩
    · rcases hh with hh | hh
      · exact ⟨rfl, .inl hh⟩
      · exact ⟨rfl, .inr (.inl ⟨rfl, hh⟩)⟩
    · rintro c st'' ⟨rfl, p, hD, hu⟩
      exact wpS_pure (h _ hD.perm hD.failed hu)
end
end Mine
end

section -- So7
open PySem PySem.W PyProof.Rows PySem.Calls
set_option Elab.async false
set_option maxRecDepth 100000
set_option maxHeartbeats 4000000
set_option linter.unusedVariables false
namespace Mine

/-- the heap while the list is being put in order -/
def sortingHeap (h : Heap) (a : Addr) (vs : List Value) : Heap := ((h.update a (Obj.mapSeq fun _ => #[])).push (seqObj "tuple" vs.toArray 0)).push (seqObj "list" #[] 0)

section
variable {prog : Program} {w : World} {A : Around} {E : Value → Shared → Prop} {s : Shared}

theorem mapM_all {β : Type} {f : Value → Sem β} {b : β} : ∀ {vs : List Value} {Q : List β → Shared → Prop} (_ : ∀ v ∈ vs, ∀ Q : β → Shared → Prop, Q b s → wpAny (model prog w) A (f v) Q E s), Q (vs.map fun _ => b) s → wpAny (model prog w) A (vs.mapM f) Q E s
  | [], Q, _, q => by rw [List.mapM_nil]; exact wpAny_pure q
  | v :: vs, Q, hf, q => by
    rw [List.mapM_cons]
    refine wpAny_bind (hf v (.head _) _ ?_)
    refine wpAny_bind (mapM_all (fun u hu => hf u (.tail _ hu)) ?_)
    exact wpAny_pure q

theorem keyKind_lists {vs : List Value} {Q : SortKind → Shared → Prop} (hT : ∀ v ∈ vs, s.TypeIs v "list") (hne : vs ≠ []) (q : Q oneType' s) : wpAny (model prog w) A (keyKind' vs.toArray) Q E s := by
  rw [keyKind'_eq, List.mapM_toArray, map_eq_pure_bind]
  obtain ⟨v₀, rest, rfl⟩ : ∃ v r, vs = v :: r := by
    cases vs with
    | nil => exact absurd rfl hne
    | cons v r => exact ⟨v, r, rfl⟩
  refine wpAny_bind (wpAny_bind (mapM_all (b := none) (fun v hv Q' q' => ?_) (wpAny_pure ?_)))
  · unfold firstOfTuple'
    k_delta "firstOfTuple?"
    refine wpAny_bind (wpAny_typeOf (hT v hv) ?_)
    rw [if_pos (by decide)]
    exact wpAny_pure q'
  rw [if_neg (by simp), if_neg (by simp)]
  rw [oneTypeOnly'_eq, List.mapM_toArray, map_eq_pure_bind]
  refine wpAny_bind (wpAny_bind (wpAny_bind (mapM_all (b := Value.type "list") (fun v hv Q' q' => wpAny_typeOf (hT v hv) q') (wpAny_pure ?_))))
  have hall : ((List.map (fun _ => Value.type "list") (v₀ :: rest)).toArray.all fun x => x == Value.type "list") = true := by
    simp only [List.all_toArray, List.all_map, List.all_eq_true]
    intro _ _
    rfl
  have h0 : (List.map (fun _ => Value.type "list") (v₀ :: rest)).toArray[0]? = some (Value.type "list") := by simp
  rw [h0]
  simp only [hall, if_true]
  exact wpAny_pure (wpAny_pure q)

theorem list_sort_tree_ {M : Keyed → Prop} {K : Keyed → Int} {a : Addr} {vs : List Value} {n : Nat} {P : Fin → Shared → Prop} (ho : s.heap.get? a = some (seqObj "list" vs.toArray n))
    (C : Cmp prog w A { s with heap := sortingHeap s.heap a vs } M K) (hM : ∀ x ∈ (pairsOf vs).toList, M x) (hT : ∀ v ∈ vs, Shared.TypeIs { s with heap := sortingHeap s.heap a vs } v "list") (h64 : vs.length < 128)
    (h : ∀ out : Array Keyed, out.Perm (pairsOf vs) → Up K 0 out (pairsOf vs).size → P (.done (.ret .none)) { s with heap := sortedHeap s.heap a vs (out.map (·.2)) }) :
    wpAny (model prog w) A (Builtin.«list.sort» ⟨[.ref a], []⟩) P E s := by
  rw [list_sort_plain]
  have ha : a < s.heap.objs.size := Heap.lt_size ho
  refine wpAny_bind (listItems_at ho rfl ?_)
  refine wpAny_bind (listUpdate_at ho rfl ?_ (by rw [List.size_toArray, sizeLine_eq]; omega))
  obtain ⟨e1, ho1⟩ : ∃ e1, (s.heap.update a (Obj.mapSeq fun _ => #[])).get? a = some (seqObj "list" #[] e1) := ⟨_, get?_update_seq ho (fun _ => #[])⟩
  refine wpAny_bind (seqEpoch_at ho1 rfl ?_)
  refine wpAny_bind (wpAny_newTuple ?_ (by show vs.length ≤ _; rw [sizeLine_eq]; omega))
  refine wpAny_bind (wpAny_newList ?_)
  refine wpAny_holding ?_
  have ho6 : (sortingHeap s.heap a vs).get? a = some (seqObj "list" #[] e1) := by
    unfold sortingHeap
    rw [Heap.get?_push_ne _ _ _ (by rw [size_push', Heap.size_update]; exact Nat.ne_of_lt (Nat.lt_succ_of_lt ha)), Heap.get?_push_ne _ _ _ (by rw [Heap.size_update]; exact Nat.ne_of_lt ha)]
    exact ho1
  show wpAny (model prog w) A _ P E { s with heap := sortingHeap s.heap a vs }
  dsimp only
  have hsz : vs.toArray.size = vs.length := by simp
  by_cases h2 : vs.toArray.size < 2
  · rw [if_pos h2, if_pos h2]
    refine wpAny_bind (wpAny_pure ?_)
    rw [StateT.run_pure]
    refine wpAny_bind (wpAny_pure ?_)
    dsimp only
    refine wpAny_bind (seqEpoch_at ho6 rfl ?_)
    refine wpAny_bind (listUpdate_at ho6 rfl ?_ (Nat.zero_le _) (by rw [Array.size_map]; show (pairsOf vs).size ≤ _; rw [pairsOf_size, sizeLine_eq]; omega))
    simp only [bne_self_eq_false, Bool.false_eq_true, if_false]
    refine wpAny_pure (h (pairsOf vs) (Array.Perm.refl _) ?_)
    intro i j hij hj
    have : i = j := by rw [pairsOf_size] at hj; omega
    subst this; exact Int.le_refl _
  · rw [if_neg h2, if_neg h2]
    refine wpAny_bind (keyKind_lists hT (by intro e; subst e; simp at h2) ?_)
    refine wpAny_bind (wpAny_mono (wpS_runs (a₀ := pairsOf vs) (st := SortSt.mk' oneType' (vs.toArray.zip vs.toArray) #[] 7 none)
      (Q := fun _ st' => (arrOf st').Perm (pairsOf vs) ∧ failedOf st' = none ∧ Up K 0 (arrOf st') (pairsOf vs).size)
      C hM ⟨Array.Perm.refl _, rfl, rfl, rfl, fun _ _ => rfl⟩ (by rw [pairsOf_size]; omega) (by rw [pairsOf_size]; exact h64) fun st' a1 a2 a3 => ⟨a1, a2, a3⟩) ?_ fun _ _ e => e)
    rintro ⟨⟨⟩, st'⟩ s' ⟨rfl, hp, hf, hs⟩
    dsimp only
    refine wpAny_bind (seqEpoch_at ho6 rfl ?_)
    refine wpAny_bind (listUpdate_at ho6 rfl ?_ (Nat.zero_le _) (by refine Nat.le_trans (Nat.le_of_eq ((Array.size_map ..).trans (hp.size_eq.trans (pairsOf_size _)))) ?_; rw [sizeLine_eq]; omega))
    rw [hf]
    simp only [bne_self_eq_false, Bool.false_eq_true, if_false]
    exact wpAny_pure (h (arrOf st') hp hs)

theorem ext_update {h h' : Heap} {a : Addr} (f : Obj → Obj) (n : h.objs.size ≤ a) (e : Ext h h') : Ext h (h'.update a f) := fun b o hb => by
  have := Heap.lt_size hb
  exact (Heap.get?_update_other _ _ (Nat.ne_of_gt (Nat.lt_of_lt_of_le this n))).trans (e b o hb)

theorem sorted_ {M : Keyed → Prop} {K : Keyed → Int} {l : Addr} {vs : List Value} {Q : Value → Shared → Prop} (hl : s.heap.IsList l vs.toArray)
    (C : ∀ s' : Shared, Ext s.heap s'.heap → ∀ A' : Around, A'.units ≤ A.units + 2 → Cmp prog w A' s' M K) (hM : ∀ x ∈ (pairsOf vs).toList, M x) (hT : ∀ s' : Shared, Ext s.heap s'.heap → ∀ v ∈ vs, s'.TypeIs v "list") (h64 : vs.length < 128)
    (h : ∀ out : Array Keyed, out.Perm (pairsOf vs) → Up K 0 out (pairsOf vs).size → Q (.ref (s.heap.objs.size + 1)) { s with heap := sortedAll s.heap vs (out.map (·.2)) }) :
    wpAny (model prog w) A (call (.builtin "sorted") [.ref l]) Q E s := by
  refine Calls.call_function_entry kind_sorted plain_sorted entry_sorted (args_sorted1 _) ?_
  unfold Builtin.«sorted»
  refine wpAny_bind (m := checkCount "sorted" 1 1 _) (wpAny_pure ?_)
  refine wpAny_bind (collect_list hl ?_ (by rw [sizeLine_eq]; omega))
  refine wpAny_bind (wpAny_newList ?_ (by show vs.length ≤ _; rw [sizeLine_eq]; omega))
  have hsz : ((s.heap.push (seqObj "list" #[] 0)).update s.heap.objs.size (Obj.mapSeq (· ++ vs.toArray))).objs.size = s.heap.objs.size + 1 := by
    rw [Heap.size_update, size_push']
  have hoL : (((s.heap.push (seqObj "list" #[] 0)).update s.heap.objs.size (Obj.mapSeq (· ++ vs.toArray))).push (seqObj "list" vs.toArray 0)).get? (s.heap.objs.size + 1) = some (seqObj "list" vs.toArray 0) := by
    rw [← hsz]; exact Heap.get?_push_size _ rfl
  show wpAny _ _ _ _ _ { s with heap := ((s.heap.push (seqObj "list" #[] 0)).update s.heap.objs.size (Obj.mapSeq (· ++ vs.toArray))).push (seqObj "list" vs.toArray 0) }
  rw [hsz]
  have ex : Ext s.heap (sortingHeap (((s.heap.push (seqObj "list" #[] 0)).update s.heap.objs.size (Obj.mapSeq (· ++ vs.toArray))).push (seqObj "list" vs.toArray 0)) (s.heap.objs.size + 1) vs) :=
    ((ext_update _ (Nat.le_succ _) (((ext_update _ (Nat.le_refl _) (ext_push _)).trans (ext_push _)))).trans (ext_push _)).trans (ext_push _)
  refine wpAny_bind (wpAny_holding (wpAny_call_entry slot_list_sort ⟨_, hoL, rfl⟩ entry_list_sort (list_sort_tree_ (K := K) hoL (C _ ex _ ?_) hM (hT _ ex) h64 fun out a1 a2 => ⟨_, rfl, ?_⟩) (args_list_sort _)))
  · exact Nat.le_refl _
  · exact wpAny_pure ⟨_, rfl, h out a1 a2⟩
end
end Mine
end

section -- So8
open PySem PySem.W PyProof.Rows PySem.Calls
set_option Elab.async false
set_option maxRecDepth 100000
set_option maxHeartbeats 4000000
set_option linter.unusedVariables false
namespace Mine

def code : List Int → Int
  | [] => 0
  | x :: xs => x * 16 ^ xs.length + code xs
def Dig (ns : List Int) : Prop := ∀ x ∈ ns, 0 ≤ x ∧ x < 16
theorem pow16 (n : Nat) : (0 : Int) < 16 ^ n := Int.pow_pos (by decide)
theorem code_bound : ∀ {ns : List Int}, Dig ns → 0 ≤ code ns ∧ code ns < 16 ^ ns.length
  | [], _ => ⟨Int.le_refl _, by decide⟩
  | x :: xs, hd => by
    obtain ⟨h1, h2⟩ := code_bound (ns := xs) fun y hy => hd y (.tail _ hy)
    obtain ⟨h3, h4⟩ := hd x (.head _)
    have hp := pow16 xs.length
    simp only [code, List.length_cons, Int.pow_succ]
    have a1 : 0 ≤ x * 16 ^ xs.length := Int.mul_nonneg h3 (Int.le_of_lt hp)
    have a2 : x * 16 ^ xs.length ≤ 15 * 16 ^ xs.length := Int.mul_le_mul_of_nonneg_right (by omega) (Int.le_of_lt hp)
    constructor <;> omega
theorem code_lt_cons {x y : Int} {xs ys : List Int} (hl : xs.length = ys.length) (hx : Dig xs) (hy : Dig ys) (h : x < y) : code (x :: xs) < code (y :: ys) := by
  obtain ⟨h1, h2⟩ := code_bound hx
  obtain ⟨h3, h4⟩ := code_bound hy
  simp only [code]
  rw [hl] at h2 ⊢
  have hp := pow16 ys.length
  have a2 : (x + 1) * 16 ^ ys.length ≤ y * 16 ^ ys.length := Int.mul_le_mul_of_nonneg_right (by omega) (Int.le_of_lt hp)
  rw [Int.add_mul] at a2
  omega
theorem lex_code : ∀ {as bs : List Int}, as.length = bs.length → Dig as → Dig bs → lexLt as bs = decide (code as < code bs)
  | [], [], _, _, _ => rfl
  | x :: xs, y :: ys, hl, hx, hy => by
    have hl' : xs.length = ys.length := by simpa using hl
    have hx' : Dig xs := fun z hz => hx z (.tail _ hz)
    have hy' : Dig ys := fun z hz => hy z (.tail _ hz)
    simp only [lexLt]
    by_cases h : x = y
    · subst h
      rw [if_pos rfl, lex_code hl' hx' hy']
      simp only [code, hl']
      congr 1
      apply propext
      constructor <;> intro h <;> omega
    · rw [if_neg h]
      by_cases h2 : x < y
      · rw [decide_eq_true h2, decide_eq_true (code_lt_cons hl' hx' hy' h2)]
      · have := code_lt_cons hl'.symm hy' hx' (show y < x by omega)
        rw [decide_eq_false h2, decide_eq_false (by omega)]
theorem code_inj : ∀ {as bs : List Int}, as.length = bs.length → Dig as → Dig bs → code as = code bs → as = bs
  | [], [], _, _, _, _ => rfl
  | x :: xs, y :: ys, hl, hx, hy, e => by
    have hl' : xs.length = ys.length := by simpa using hl
    have hx' : Dig xs := fun z hz => hx z (.tail _ hz)
    have hy' : Dig ys := fun z hz => hy z (.tail _ hz)
    have h : x = y := by
      rcases Int.lt_trichotomy x y with h | h | h
      · have := code_lt_cons hl' hx' hy' h
        omega
      · exact h
      · have := code_lt_cons hl'.symm hy' hx' h
        omega
    subst h
    simp only [code, hl'] at e
    rw [code_inj hl' hx' hy' (by omega)]

def ins (x : List Int) : List (List Int) → List (List Int)
  | [] => [x]
  | y :: ys => if code x ≤ code y then x :: y :: ys else y :: ins x ys
def isort (l : List (List Int)) : List (List Int) := l.foldr ins []
theorem ins_perm (x : List Int) : ∀ l, (ins x l).Perm (x :: l)
  | [] => .refl _
  | y :: ys => by
    unfold ins
    split
    · exact .refl _
    · exact ((ins_perm x ys).cons y).trans (.swap x y ys)
theorem ins_sorted {x : List Int} : ∀ {l : List (List Int)}, l.Pairwise (fun a b => code a ≤ code b) → (ins x l).Pairwise fun a b => code a ≤ code b
  | [], _ => List.pairwise_singleton _ _
  | y :: ys, h => by
    obtain ⟨h1, h2⟩ := List.pairwise_cons.mp h
    unfold ins
    split
    · rename_i hx
      refine List.pairwise_cons.mpr ⟨fun z hz => ?_, h⟩
      rcases List.mem_cons.mp hz with rfl | hz
      · exact hx
      · exact Int.le_trans hx (h1 z hz)
    · rename_i hx
      refine List.pairwise_cons.mpr ⟨fun z hz => ?_, ins_sorted h2⟩
      rcases List.mem_cons.mp ((ins_perm x ys).mem_iff.mp hz) with rfl | hz
      · omega
      · exact h1 z hz
theorem isort_perm : ∀ l, (isort l).Perm l
  | [] => .refl _
  | x :: l => (ins_perm x (isort l)).trans ((isort_perm l).cons x)
theorem isort_sorted : ∀ l, (isort l).Pairwise fun a b => code a ≤ code b
  | [] => .nil
  | x :: l => ins_sorted (isort_sorted l)

def intsAt (h : Heap) : Value → List Int
  | .ref a => match h.get? a with
    | some o => match o.data with
      | .seq xs _ => xs.toList.map PyProof.Rows.numOf
      | _ => []
    | none => []
  | _ => []
theorem intsAt_is {h : Heap} {v : Value} {ns : List Int} (x : IsInts h v ns) : intsAt h v = ns := by
  obtain ⟨a, vs, rfl, ⟨o, ho, hc, n, hd⟩, hi⟩ := x
  show (match h.get? a with | some o => _ | none => _) = ns
  rw [ho]
  dsimp only
  rw [hd]
  exact hi.nums
theorem paired_mem {α β : Type} {F : α → β → Prop} : ∀ {l₁ : List α} {l₂ : List β}, Paired F l₁ l₂ → ∀ a ∈ l₁, ∃ b ∈ l₂, F a b
  | _, _, .nil, a, h => nomatch h
  | _, _, .cons h t, a, ha => by
    rcases List.mem_cons.mp ha with rfl | ha
    · exact ⟨_, .head _, h⟩
    · obtain ⟨b, hb, e⟩ := paired_mem t a ha
      exact ⟨b, .tail _ hb, e⟩
theorem paired_map {h : Heap} : ∀ {vs : List Value} {nss : List (List Int)}, Paired (IsInts h) vs nss → vs.map (intsAt h) = nss
  | _, _, .nil => rfl
  | _, _, .cons h t => by rw [List.map_cons, intsAt_is h, paired_map t]
theorem paired_of_mem {h : Heap} : ∀ {us : List Value}, (∀ u ∈ us, IsInts h u (intsAt h u)) → Paired (IsInts h) us (us.map (intsAt h))
  | [], _ => .nil
  | u :: us, x => .cons (x u (.head _)) (paired_of_mem fun v hv => x v (.tail _ hv))

section
variable {prog : Program} {w : World} {A : Around} {h : Heap}
theorem ev_sortedL {v : Value} {nss : List (List Int)} {L : Nat} (p : Is (.zss nss) v h) (hl : nss.length < 128) (hd : ∀ ns ∈ nss, ns.length = L ∧ Dig ns) (hu : A.units + 64 < cLine) :
    Ev prog w A h (call (.builtin "sorted") [v]) (Is (.zss (isort nss))) := by
  obtain ⟨a, vs, rfl, l, hp⟩ := p
  refine Ev.of fun s Q e q => ?_
  have mem : ∀ x ∈ (pairsOf vs).toList, x.1 = x.2 ∧ x.1 ∈ vs := fun x hx => by
    rw [pairsOf_toList] at hx
    exact mem_zip_self hx
  refine sorted_ (M := fun x => ∃ ns ∈ nss, IsInts h x.1 ns) (K := fun x => code (intsAt h x.1)) (e.l.isList l) ?_ ?_ ?_ (by rw [paired_length hp]; exact hl) ?_
  · rintro s' e' A' hu' x y ⟨as, ha, ia⟩ ⟨bs, hb, ib⟩ E' Q' q'
    have q' : Q' (decide (code (intsAt h x.1) < code (intsAt h y.1))) s' := q'
    simp only [intsAt_is ia, intsAt_is ib] at q'
    refine oneLt_lists (by omega) (ia.l (e.trans e').l) (ib.l (e.trans e').l) ?_
    rw [lex_code (by rw [(hd as ha).1, (hd bs hb).1]) (hd as ha).2 (hd bs hb).2]
    exact q'
  · intro x hx
    exact paired_mem hp _ (mem x hx).2
  · intro s' e' u hu
    obtain ⟨ns, _, b, us, rfl, ⟨o, ho, hc, _⟩, _⟩ := paired_mem hp u hu
    exact ⟨o, e' _ _ (e _ _ ho), hc⟩
  · intro out hperm hup
    have hl2 : out.toList.Perm (vs.zip vs) := by rw [← pairsOf_toList]; exact Array.perm_iff_toList_perm.mp hperm
    have hmem : ∀ x ∈ out.toList, x.1 = x.2 ∧ x.1 ∈ vs := fun x hx => mem_zip_self (hl2.mem_iff.mp hx)
    obtain ⟨n, hat⟩ := sortedAll_at s.heap vs (out.map (·.2))
    refine q _ _ s.toks (fun b o => sortedAll_old) ⟨_, (out.map (·.2)).toList, rfl, ⟨_, hat, rfl, n, rfl⟩, ?_⟩
    have e1 : (out.map (·.2)).toList = out.toList.map (·.1) := by
      rw [Array.toList_map]; exact List.map_congr_left fun x hx => (hmem x hx).1.symm
    rw [e1]
    have hints : ∀ u ∈ out.toList.map (·.1), IsInts h u (intsAt h u) := fun u hu => by
      obtain ⟨x, hx, rfl⟩ := List.mem_map.mp hu
      obtain ⟨ns, _, i⟩ := paired_mem hp _ (hmem x hx).2
      rw [intsAt_is i]; exact i
    have e2 : (out.toList.map (·.1)).map (intsAt h) = isort nss := by
      have p1 : ((out.toList.map (·.1)).map (intsAt h)).Perm nss := by
        have := (hl2.map Prod.fst).map (intsAt h)
        rwa [List.map_fst_zip (Nat.le_refl _), paired_map hp] at this
      refine List.Perm.eq_of_pairwise (le := fun a b => code a ≤ code b) (fun x y hx hy h1 h2 => ?_) ?_ (isort_sorted nss) (p1.trans (isort_perm nss).symm)
      · have hx' := p1.mem_iff.mp hx
        have hy' := (isort_perm nss).mem_iff.mp hy
        exact code_inj (by rw [(hd x hx').1, (hd y hy').1]) (hd x hx').2 (hd y hy').2 (Int.le_antisymm h1 h2)
      · rw [List.map_map, List.pairwise_map]
        refine List.pairwise_iff_getElem.mpr fun i j hi hj hij => ?_
        have hi' : i < out.size := by simpa using hi
        have hj' : j < out.size := by simpa using hj
        have := hup i j (Nat.le_of_lt hij) (by rw [← hperm.size_eq]; exact hj')
        rw [at_get hi', at_get hj'] at this
        simpa using this
    rw [← e2]
    exact paired_mono (fun _ _ i => IsInts.l (e.trans (fun b o => sortedAll_old)).l i) (paired_of_mem hints)
end
end Mine
end

section -- CpG
open PySem PySem.W PyProof.Rows PySem.Calls
set_option Elab.async false
set_option maxRecDepth 100000
set_option maxHeartbeats 2000000
set_option linter.unusedVariables false
namespace Mine

/-- as Ev; a list that comes back is new, or stood in b -/
def EvG (prog : Program) (w : World) (A : Around) (b h : Heap) (t : Sem Value) (d : D) : Prop :=
  ∀ s : Shared, Ext h s.heap → wpAny (model prog w) A t (fun v s' => Keeps s s' ∧ Is d v s'.heap ∧ ∀ a, v = .ref a → s.heap.get? a = none ∨ ∃ o, b.get? a = some o) (fun _ _ => False) s
section
variable {prog : Program} {w : World} {A : Around} {b h : Heap}
theorem EvG.use {t : Sem Value} {d : D} {s : Shared} {Q : Value → Shared → Prop} {E : Value → Shared → Prop} (x : EvG prog w A b h t d) (e : Ext h s.heap)
    (k : ∀ v h' tk, Ext s.heap h' → Is d v h' → (∀ a, v = .ref a → s.heap.get? a = none ∨ ∃ o, b.get? a = some o) → Q v { s with heap := h', toks := tk }) : wpAny (model prog w) A t Q E s := by
  refine wpAny_mono (x s e) (fun v s' q => ?_) fun _ _ f => f.elim
  obtain ⟨⟨h', tk, rfl, hk⟩, hp, hn⟩ := q
  exact k v h' tk hk hp hn
theorem EvG.of {t : Sem Value} {d : D} (x : ∀ (s : Shared) (Q : Value → Shared → Prop), Ext h s.heap →
    (∀ v h' tk, Ext s.heap h' → Is d v h' → (∀ a, v = .ref a → s.heap.get? a = none ∨ ∃ o, b.get? a = some o) → Q v { s with heap := h', toks := tk }) → wpAny (model prog w) A t Q (fun _ _ => False) s) : EvG prog w A b h t d :=
  fun s e => x s _ e fun v h' tk hk hp hn => ⟨⟨h', tk, rfl, hk⟩, hp, hn⟩
theorem EvF.g {t : Sem Value} {d : D} (x : EvF prog w A h t d) : EvG prog w A b h t d := EvG.of fun s Q e q => x.use e fun v h' tk k p f => q v h' tk k p fun a ea => .inl (f a ea)
theorem EvG.mono {b' : Heap} {t : Sem Value} {d : D} (x : EvG prog w A b h t d) (e : Ext b b') : EvG prog w A b' h t d := EvG.of fun s Q e' q => x.use e' fun v h' tk k p f => q v h' tk k p fun a ea => (f a ea).imp id fun ⟨o, z⟩ => ⟨o, e _ _ z⟩
end
section
variable {prog : Program} {w : World} {A : Around} {R : Result → Shared → Prop} {s : Shared}
theorem compLoop1G {elt iter : PySem.Expr} {x : Str} {px : Pos} {ifs : List PySem.Expr} {scope : Scope} {pos : Pos} {I D0 : Addr} {fp wr : List Addr} {n : Nat} {P : Nat → Value → Prop} {St : Nat → Heap → Prop}
    {cenv : Env} {m : Str → Option Value} {h : Heap} (W : Way prog w A I fp wr n P St) (items f : Nat → D) (p : Nat → Bool)
    (hx : cenv.kindOf x = some .local) (hp : (cenv.scope.kind == .class || (cenv.scope.kind == .module && cenv.locals != cenv.globals)) = false)
    (hDC : D0 ≠ cenv.locals) (hDf : D0 ∉ fp) (hCf : cenv.locals ∉ fp)
    (hD : h.get? D0 = none) (hC : h.get? cenv.locals = none) (hw : ∀ b ∈ wr, h.get? b = none)
    (hitem : ∀ i v, i < n → P i v → ∀ H, Ext h H → Is (items i) v H) (hflat : ∀ i, i < n → Flat (f i))
    (body : ∀ i v H m, i < n → Ext h H → H.Ns cenv.locals m → m x = some v → Is (items i) v H →
      Tests prog w A H ifs cenv (p i) ∧ (p i = true → EvG prog w A h H (eval elt cenv) (f i)))
    (e0 : Ext h s.heap) (hst : St 0 s.heap) (hacc : s.heap.PlainList D0 #[]) (hn : s.heap.Ns cenv.locals m) (hsz : n ≤ 1000)
    (hR : ∀ H tk m' ys, Ext h H → H.Ns cenv.locals m' → H.PlainList D0 ys → IsAll H (picked n p f) ys.toList → R (.ok .next) { s with heap := H, toks := tk }) :
    codeAny (model prog w) A (.compLoop (.ListComp elt [⟨.Name x px, iter, ifs, 0⟩] scope pos) 0 (.ref I) (.ref D0) cenv) R s := by
  refine codeAny_compLoop_tests
    (fun k s' => ∃ i H tk m' ys, s' = { s with heap := H, toks := tk } ∧ St i H ∧ Ext h H ∧ H.PlainList D0 ys ∧ H.Ns cenv.locals m' ∧ Items H D0 (picked i p f) ys ∧ i ≤ n ∧ ys.size ≤ i ∧ k = n + 1 - i) ?_ (n + 1)
    ⟨0, s.heap, s.toks, m, #[], rfl, hst, e0, hacc, hn, Items.nil, Nat.zero_le _, Nat.zero_le _, rfl⟩
  rintro k s' ⟨i, H, tk, m', ys, rfl, st, e, hpl, hns, its, hi, hys, rfl⟩
  have hCw : cenv.locals ∉ wr := fun q => hCf (W.walks.sub _ q)
  have hDw : D0 ∉ wr := fun q => hDf (W.walks.sub _ q)
  by_cases hlt : i < n
  · refine W.walks.item i _ _ _ hlt st fun v h₁ tk₁ hPv st₁ k₁ => ?_
    have e₁ : Ext h h₁ := fun b o q => k₁ b o (fun hb => by rw [hw b hb] at q; cases q) (e b o q)
    have l₁ : LExt H h₁ := way_l W st k₁
    have n₁ : h₁.Ns cenv.locals m' := hns.at' fun o q => k₁ _ o hCw q
    refine wpAny_assign_Name (wpAny_storeName_local hx n₁ (fun h₂ hn₂ hs₂ => ?_) hp)
    have e₂ : Ext h h₂ := fun b o q => hs₂.extBut b o (fun hb => by rw [hb, hC] at q; cases q) (e₁ b o q)
    have l₂ : LExt H h₂ := l₁.trans (LExt.ofNs n₁ hs₂)
    have st₂ : St (i + 1) h₂ := W.walks.frame _ _ _ st₁ fun b hb o q => hs₂.extBut b o (fun z => hCf (z ▸ hb)) q
    obtain ⟨bt, be⟩ := body i v h₂ _ hlt e₂ hn₂ (by simp) (hitem i v hlt hPv h₂ e₂)
    refine bt.use (Ext.refl _) fun ok h₃ t₃ k₃ p₃ => ?_
    subst p₃
    have st₃ : St (i + 1) h₃ := W.walks.frame _ _ _ st₂ fun b _ o q => k₃ b o q
    have n₃ := hn₂.keeps k₃
    cases hpi : p i with
    | false =>
      simp only [Bool.false_eq_true, if_false]
      refine ⟨n + 1 - (i + 1), by omega, i + 1, h₃, t₃, _, ys, rfl, st₃, e₂.trans k₃, (l₂.trans k₃.l).plain hpl, n₃, ?_, hlt, Nat.le_succ_of_le hys, rfl⟩
      have : picked (i + 1) p f = picked i p f := by rw [picked_succ, hpi]; simp
      rw [this]; exact its.l (l₂.trans k₃.l)
    | true =>
      simp only [if_true]
      refine (be hpi).use (s := { s with heap := h₃, toks := t₃ }) k₃ fun y h₄ t₄ k₄ p₄ f₄ => ?_
      have hpl₄ : h₄.PlainList D0 ys := (l₂.trans (k₃.trans k₄).l).plain hpl
      have hyD : y ≠ .ref D0 := fun q => by
        obtain ⟨n', ho⟩ := (l₂.trans k₃.l).plain hpl
        rcases f₄ D0 q with this | ⟨o, this⟩
        · rw [show ({ s with heap := h₃, toks := t₃ } : Shared).heap = h₃ from rfl, ho] at this; cases this
        · rw [hD] at this; cases this
      refine wpAny_list_append_plain (s := { s with heap := h₄, toks := t₄ }) hpl₄ (fun h₅ hl₅ hs₅ => ?_) (by rw [sizeLine_eq]; omega)
      refine ⟨n + 1 - (i + 1), by omega, i + 1, h₅, t₄, _, ys.push y, rfl, ?_, ?_, hl₅, (n₃.keeps k₄).sameBut hs₅ (Ne.symm hDC), ?_, hlt, by rw [Array.size_push]; omega, rfl⟩
      · exact W.walks.frame _ _ _ st₃ fun b hb o q => hs₅.extBut b o (fun z => hDf (z ▸ hb)) (k₄ b o q)
      · exact fun b o q => hs₅.extBut b o (fun hb => by rw [hb, hD] at q; cases q) ((e₂.trans (k₃.trans k₄)) b o q)
      · have : picked (i + 1) p f = picked i p f ++ [f i] := by rw [picked_succ, hpi]; simp
        rw [this]; exact (its.l (l₂.trans (k₃.trans k₄).l)).push hs₅ p₄ (hflat i hlt) hyD
  · have hin : i = n := by omega
    subst hin
    refine W.walks.done _ _ _ st fun h₁ tk₁ k₁ => ?_
    refine hR h₁ tk₁ m' ys (fun b o q => k₁ b o (fun hb => by rw [hw b hb] at q; cases q) (e b o q)) (hns.at' fun o q => k₁ _ o hCw q) ((way_l W st k₁).plain hpl) (its.l (way_l W st k₁)).all
variable {h : Heap} {env : Env}
theorem comp1_core {elt iter : PySem.Expr} {x : Str} {px : Pos} {ifs : List PySem.Expr} {scope : Scope} {pos : Pos} {cl : List (Str × Addr)} {d : D} {n : Nat} {items : Nat → D} (f : Nat → D) (p : Nat → Bool)
    (hh : A.handled = none) (src : Ev prog w A h (eval iter env) (Is d)) (hsrc : Src d n items) (hsz : n ≤ 1000) (hflat : ∀ i, i < n → Flat (f i))
    (hclos : closureFor scope env = pure cl) (hcell : ∀ y ∈ scope.names, y.2 ≠ .cell) (hkind : scope.kind = .function)
    (hnames : ∀ y ∈ scope.names, y.2 = .local → scope.names.lookup y.1 = some .local) (hx : scope.names.lookup x = some .local)
    (body : ∀ C i v H m, i < n → Ext h H → H.Ns C m → m x = some v → Is (items i) v H →
      Tests prog w A H ifs (compEnvC scope cl C env) (p i) ∧ (p i = true → EvG prog w A h H (eval elt (compEnvC scope cl C env)) (f i)))
    {s : Shared} {E : Value → Shared → Prop} (e : Ext h s.heap) (RR : Value → Addr → Result → Shared → Prop)
    (hRR : ∀ D0 C H tk m' ys, s.heap.get? D0 = none → s.heap.get? C = none → D0 ≠ C → Ext s.heap H → H.Ns C m' → H.PlainList D0 ys → IsAll H (picked n p f) ys.toList → RR (.ref D0) C (.ok .next) { s with heap := H, toks := tk }) :
    wpAny (model prog w) A (eval iter env) (fun xv s₁ => wpAny (model prog w) A (pyIter xv) (fun it s₂ => wpAny (model prog w) A (newList []) (fun acc s₃ => wpAny (model prog w) A (newFunctionEnv scope env.globals cl [] env.qual none .none (some env)) (fun cenv s₄ =>
      codeAny (model prog w) A (.compStart (.ListComp elt [⟨.Name x px, iter, ifs, 0⟩] scope pos) 0 it acc { cenv with scope := relabel scope env }) (RR acc cenv.locals) s₄) E s₃) E s₂) E s₁) E s := by
  refine src.use e fun xv h₁ t₁ k₁ p₁ => iter_way (s := { s with heap := h₁, toks := t₁ }) hh hsrc p₁ fun I fp wr P St h₂ g => ?_
  refine wpAny_newObj_type (wpAny_newFunctionEnv hcell (by intro y hy; simp at hy) (fun h₃ hns hsb => ?_) hkind)
  dsimp only at hns hsb ⊢
  generalize hH2 : h₂.push { cls := .type "list", dict := none, data := .seq ([] : List Value).toArray } = H2 at hns hsb ⊢
  have hC : H2.objs.size = h₂.objs.size + 1 := by rw [← hH2, Heap.size_push]
  have old : ∀ b o, h₂.get? b = some o → h₃.get? b = some o := fun b o z => hsb.extBut b o (by rw [hC]; exact Nat.ne_of_lt (Nat.lt_succ_of_lt (Heap.lt_size z))) (Heap.get?_push_of_some _ (hH2 ▸ Heap.get?_push_of_some _ z))
  have hDC : h₂.objs.size ≠ H2.objs.size := by rw [hC]; exact Nat.ne_of_lt (Nat.lt_succ_self _)
  have hacc : h₃.PlainList h₂.objs.size #[] := ⟨_, hsb.extBut _ _ hDC (Heap.get?_push_of_some _ (hH2 ▸ Heap.get?_push_size _ rfl))⟩
  have hst₃ : St 0 h₃ := g.way.walks.frame _ _ _ g.st fun b _ o z => old b o z
  have new : ∀ a, h₂.objs.size ≤ a → h₁.get? a = none := fun a ha => by
    cases z : h₁.get? a with
    | none => rfl
    | some o => exact absurd (Heap.lt_size (g.ext a o z)) (Nat.not_lt.mpr ha)
  have loop : ∀ s₃ : Shared, s₃ = { s with heap := h₃, toks := t₁ + ([] : List (Str × Value)).length } →
      codeAny (model prog w) A (.compLoop (.ListComp elt [⟨.Name x px, iter, ifs, 0⟩] scope pos) 0 (.ref I) (.ref h₂.objs.size) (compEnvC scope cl H2.objs.size env))
        (RR (.ref h₂.objs.size) H2.objs.size) s₃ := by
    rintro s₃ rfl
    refine compLoop1G (h := h₁) (cenv := compEnvC scope cl H2.objs.size env) g.way items f p (lookup_relabel_local hx) (by simp [compEnvC, relabel, hkind]) hDC
      (fun z => absurd (g.low _ z) (Nat.lt_irrefl _)) (fun z => absurd (g.low _ z) (by show ¬ H2.objs.size < _; rw [hC]; omega)) (new _ (Nat.le_refl _)) (new _ (by show _ ≤ H2.objs.size; rw [hC]; exact Nat.le_succ _)) g.fresh g.item hflat
      (fun i v H m hi eH hm hv hI => let ⟨b1, b2⟩ := body H2.objs.size i v H m hi ((e.trans k₁).trans eH) hm hv hI; ⟨b1, fun z => (b2 z).mono (e.trans k₁)⟩)
      (fun b o z => old b o (g.ext b o z)) hst₃ hacc hns hsz fun H tk m' ys eH hm' hpl hall => ?_
    have none_s : ∀ a, h₁.get? a = none → s.heap.get? a = none := fun a z => by
      cases y : s.heap.get? a with
      | none => rfl
      | some o => rw [k₁ a o y] at z; cases z
    exact hRR _ _ H tk m' ys (none_s _ (new _ (Nat.le_refl _))) (none_s _ (new _ (by show _ ≤ H2.objs.size; rw [hC]; exact Nat.le_succ _))) hDC (fun b o z => eH b o (k₁ b o z)) hm' hpl hall
  exact codeAny_compStart_list (loop _ rfl) (g.way.walks.self 0 _ _ _ hst₃ (loop _ rfl))

theorem ev_comp1G {elt iter : PySem.Expr} {x : Str} {px : Pos} {ifs : List PySem.Expr} {scope : Scope} {pos : Pos} {cl : List (Str × Addr)} {d : D} {n : Nat} {items : Nat → D} (f : Nat → D) (p : Nat → Bool)
    (hh : A.handled = none) (src : Ev prog w A h (eval iter env) (Is d)) (hsrc : Src d n items) (hsz : n ≤ 1000) (hflat : ∀ i, i < n → Flat (f i))
    (hclos : closureFor scope env = pure cl) (hcell : ∀ y ∈ scope.names, y.2 ≠ .cell) (hkind : scope.kind = .function)
    (hnames : ∀ y ∈ scope.names, y.2 = .local → scope.names.lookup y.1 = some .local) (hx : scope.names.lookup x = some .local)
    (body : ∀ C i v H m, i < n → Ext h H → H.Ns C m → m x = some v → Is (items i) v H →
      Tests prog w A H ifs (compEnvC scope cl C env) (p i) ∧ (p i = true → EvG prog w A h H (eval elt (compEnvC scope cl C env)) (f i)))
    (hs : ∀ x, foldedSetIterable iter env x = pure x := by intro _; rfl) :
    Ev prog w A h (eval (.ListComp elt [⟨.Name x px, iter, ifs, 0⟩] scope pos) env) fun v H => ∃ a ys, v = .ref a ∧ H.PlainList a ys ∧ IsAll H (picked n p f) ys.toList := by
  refine Ev.of fun s Q e q => ?_
  rw [eval_ListComp]
  refine wpAny_comprehension_free (use := none) rfl hs hclos hkind hnames (comp1_core f p hh src hsrc hsz hflat hclos hcell hkind hnames hx body e (fun acc C => compPost (model prog w) A (fun _ _ => False) none Q acc C) ?_)
  intro D0 C H tk m' ys hD hC hDC eH hm' hpl hall
  refine ⟨m', hm', fun h' hs' => q _ h' tk (fun b o z => hs'.extBut b o (fun y => ?_) (eH b o z)) ⟨_, ys, rfl, ?_, ?_⟩⟩
  · rw [y, hC] at z; cases z
  · exact (LExt.ofNs hm' hs').plain hpl
  · exact hall.l (LExt.ofNs hm' hs')

theorem Fm.letgo {b hp h h' : Heap} {env : Env} {ms : List Addr} {C : Addr} (F₀ : Fm b env ms hp) (F : Fm b env ms h) (hC : hp.get? C = none) (hs : Heap.SameBut C h h') : Fm b env ms h' where
  keep := fun x o e => hs.extBut x o (fun q => by rw [q] at e; rw [F₀.keep _ _ e] at hC; cases hC) (F.keep x o e)
  off := F.off
  kind := F.kind
  ns := by
    obtain ⟨m, n⟩ := F.ns
    obtain ⟨m₀, o, _, _, ho, _⟩ := F₀.ns
    exact ⟨m, n.sameBut hs fun q => by rw [q, hC] at ho; cases ho⟩
  cell := fun n c l => by
    obtain ⟨v, i⟩ := F.cell n c l
    obtain ⟨v₀, o, ho, _⟩ := F₀.cell n c l
    exact ⟨v, i.sameBut hs fun q => by rw [q, hC] at ho; cases ho⟩
  apart := F.apart
  glob := F.glob
  bult := F.bult
  lists := fun a ha => by
    obtain ⟨xs, k, p⟩ := F.lists a ha
    obtain ⟨xs₀, k₀, ho⟩ := F₀.lists a ha
    exact ⟨xs, k, hs.extBut _ _ (fun q => by rw [q, hC] at ho; cases ho) p⟩
theorem Res.letgo {b hp h h' : Heap} {env : Env} {ms : List Addr} {C : Addr} {x : Str} {v : Value} (F₀ : Fm b env ms hp) (r : Res env h x v) (hC : hp.get? C = none) (hs : Heap.SameBut C h h') : Res env h' x v := by
  rcases r with ⟨k, m, n, q⟩ | ⟨k, c, l, i⟩ | ⟨k, mg, n, q⟩
  · obtain ⟨m₀, o, _, _, ho, _⟩ := F₀.ns
    exact .inl ⟨k, m, n.sameBut hs (fun q => by rw [q, hC] at ho; cases ho), q⟩
  · obtain ⟨v₀, o, ho, _⟩ := F₀.cell x c l
    exact .inr (.inl ⟨k, c, l, i.sameBut hs fun q => by rw [q, hC] at ho; cases ho⟩)
  · obtain ⟨mg₀, o, _, _, ho, _⟩ := F₀.glob
    obtain ⟨mb₀, o', _, _, ho', _⟩ := F₀.bult
    exact .inr (.inr ⟨k, mg, n.sameBut hs (fun q => by rw [← q, F₀.keep _ _ ho] at hC; cases hC), q.imp id fun ⟨a, mb, b, c⟩ => ⟨a, mb, b.sameBut hs (fun q => by rw [← q, F₀.keep _ _ ho'] at hC; cases hC), c⟩⟩)

/-- y = [elt for x in iter if ..]: the list is put away before the comprehension's own names go -/
theorem st_assignComp {elt iter : PySem.Expr} {x y : Str} {px py : Pos} {ifs : List PySem.Expr} {scope : Scope} {pos spos : Pos} {cl : List (Str × Addr)} {d dOut : D} {n : Nat} {items : Nat → D} {b : Heap} {ms : List Addr} {s : Shared} {E : Value → Shared → Prop} {Q : Flow → Shared → Prop} {ρ : Rho} {rest : List Stmt} (f : Nat → D) (p : Nat → Bool)
    (hh : A.handled = none) (F : Fm b env ms s.heap) (V : Vars env s.heap ρ) (hy : Storable env y) (src : Ev prog w A s.heap (eval iter env) (Is d)) (hsrc : Src d n items) (hsz : n ≤ 1000) (hflat : ∀ i, i < n → Flat (f i))
    (hclos : closureFor scope env = pure cl) (hcell : ∀ y ∈ scope.names, y.2 ≠ .cell) (hkind : scope.kind = .function)
    (hnames : ∀ y ∈ scope.names, y.2 = .local → scope.names.lookup y.1 = some .local) (hx : scope.names.lookup x = some .local)
    (hout : ∀ v H, (∃ a ys, v = .ref a ∧ H.PlainList a ys ∧ IsAll H (picked n p f) ys.toList) → Is dOut v H)
    (body : ∀ C i v H m, i < n → Ext s.heap H → H.Ns C m → m x = some v → Is (items i) v H →
      Tests prog w A H ifs (compEnvC scope cl C env) (p i) ∧ (p i = true → EvG prog w A s.heap H (eval elt (compEnvC scope cl C env)) (f i)))
    (hsw : swapsWith (.ListComp elt [⟨.Name x px, iter, ifs, 0⟩] scope pos) (some (.Name y py)) spos.line env = pure true)
    (k : ∀ h' tk, Fm b env ms h' → Vars env h' ((y, dOut) :: ρ) → LExt s.heap h' → Chg env ms s.heap h' → wpAny (model prog w) A (execs rest env) Q E { s with heap := h', toks := tk })
    (hs : ∀ x, foldedSetIterable iter env x = pure x := by intro _; rfl) :
    wpAny (model prog w) A (execs (.Assign [.Name y py] (.ListComp elt [⟨.Name x px, iter, ifs, 0⟩] scope pos) spos :: rest) env) Q E s := by
  refine wpAny_execs_cons ?_
  rw [exec_Assign_Name_used _ _ _ _ hsw]
  refine wpAny_bind (wpAny_standAt (wpAny_bind ?_))
  show wpAny _ A (do let _ ← comprehension (.ListComp elt [⟨.Name x px, iter, ifs, 0⟩] scope pos) scope env _ (newList []) false (eval iter env) (some (assign (.Name y py) env))) _ _ s
  refine wpAny_bind (wpAny_mono (wpAny_comprehension_free (use := some (assign (.Name y py) env)) (Q := fun _ s' => wpAny (model prog w) A (execs rest env) Q E s') rfl hs hclos hkind hnames (comp1_core f p hh src hsrc hsz hflat hclos hcell hkind hnames hx body (Ext.refl _) (fun acc C => compPost (model prog w) A E (some (assign (.Name y py) env)) (fun _ s' => wpAny (model prog w) A (execs rest env) Q E s') acc C) ?_)) (fun _ s' hq => wpAny_pure (wpAny_pure hq)) fun _ _ e => e)
  intro D0 C H tk m' ys hD hC hDC eH hm' hpl hall
  show wpAny _ A (assign (.Name y py) env (.ref D0)) _ _ _
  refine wpAny_assign_Name (store_any (s := { s with heap := H, toks := tk }) (F.up eH) hy fun h₂ t₂ F₂ r₂ o₂ l₂ c₂ => ?_)
  have hCn : ∃ m, h₂.Ns C m := by
    obtain ⟨o, es, ep, ho, hd, r⟩ := id hm'
    refine ⟨m', o, es, ep, c₂ C o (fun z => ?_) ho, hd, r⟩
    have F0 := F
    rcases z with z | ⟨n, l⟩ | z
    · obtain ⟨m₀, o, _, _, ho, _⟩ := F0.ns
      rw [z] at hC; rw [ho] at hC; cases hC
    · obtain ⟨v₀, o, ho, _⟩ := F0.cell n C l
      rw [ho] at hC; cases hC
    · obtain ⟨xs, k, ho⟩ := F0.lists C z
      rw [ho] at hC; cases hC
  obtain ⟨m₂, hm₂⟩ := hCn
  refine ⟨m₂, hm₂, fun h₃ hs₃ => (k h₃ t₂ (F.letgo F₂ hC hs₃) ?_ ((eH.l.trans l₂).trans (LExt.ofNs hm₂ hs₃)) fun a o na ho => hs₃.extBut a o (fun q => by rw [q, hC] at ho; cases ho) (c₂ a o na (eH a o ho)))⟩
  have l₃ := l₂.trans (LExt.ofNs hm₂ hs₃)
  refine Vars.put (V.up eH) (r₂.letgo F hC hs₃) ?_ (fun z u hz r => (o₂ z u hz r).letgo F hC hs₃) l₃
  exact (hout _ H ⟨D0, ys, rfl, hpl, hall⟩).l l₃
end
end Mine
end

section -- Ev2
open PySem PySem.W PyProof.Rows PySem.Calls
set_option Elab.async false
set_option maxRecDepth 100000
set_option maxHeartbeats 2000000
set_option linter.unusedVariables false
namespace Mine
theorem none_back {h h' : Heap} {a : Addr} (e : Ext h h') (n : h'.get? a = none) : h.get? a = none := by
  cases z : h.get? a with
  | none => rfl
  | some o => rw [e a o z] at n; cases n
section
variable {prog : Program} {w : World} {A : Around} {h b : Heap} {env : Env}
theorem evF_catZ {l r : PySem.Expr} {pos : Pos} {a b : List Int} (x : Ev prog w A h (eval l env) (Is (.zs a))) (y : Ev prog w A h (eval r env) (Is (.zs b))) (hl : a.length + b.length ≤ 2 ^ 20) :
    EvF prog w A h (eval (.BinOp l .Add r pos) env) (.zs (a ++ b)) :=
  EvF.of fun s Q e q => wpAny_BinOp (x.use e fun u h₁ t₁ k₁ p₁ => y.use (e.trans k₁) fun v h₂ t₂ k₂ p₂ => by
    obtain ⟨p, vs, rfl, hp, hi⟩ := p₁.l k₂.l
    obtain ⟨p', ws, rfl, hp', hj⟩ := p₂
    obtain ⟨⟨cls, dd, data, sl⟩, ho, hc, n, hd⟩ := hp
    obtain ⟨⟨cls2, dd2, data2, sl2⟩, ho2, hc2, n2, hd2⟩ := hp'
    simp only at hc hd hc2 hd2
    subst hc hd hc2 hd2
    have e' : vs.toArray ++ ws.toArray = (vs ++ ws).toArray := by simp
    refine concat_meets (s := { s with heap := h₂, toks := t₂ }) ⟨_, ho, rfl⟩ ⟨_, ho2, rfl⟩ noFill_list_add seq_list_add PySem.F.slot_list_add PySem.F.entry_list_add (PySem.F.args_list_add_2 _ _)
      (list_addW p p' vs.toArray ws.toArray n n2 dd dd2 sl sl2 (by simp only [List.size_toArray, hi.length, hj.length, sizeLine_eq]; omega)) ⟨ho, ho2, ?_⟩
    rw [e']
    exact q _ _ t₂ (k₁.trans (k₂.trans (ext_push _))) ⟨_, _, rfl, ⟨_, Heap.get?_push_size _ rfl, rfl, 0, rfl⟩, hi.append hj⟩ fun a ea => by
      cases ea
      exact none_back (k₁.trans k₂) (none_of_ge (Nat.le_refl _)))

theorem evG_itemL {value slice : PySem.Expr} {pos : Pos} {nss : List (List Int)} {k : Int} {u : Value}
    (x : Ev prog w A h (eval value env) fun v _ => v = u) (iu : Is (.zss nss) u b) (eb : Ext b h) (y : Ev prog w A h (eval slice env) (Is (.int k))) (h0 : 0 ≤ k) (h1 : k < nss.length) (h2 : nss.length < 2 ^ 60)
    (hs : ∀ l t, subscripted slice false (.ref l) (.int k t) = operate [.ref l, .int k t] (getItem (.ref l) (.int k t)) := by intro _ _; with_unfolding_all rfl) :
    EvG prog w A b h (eval (.Subscript value slice pos) env) (.zs (nss.getD k.toNat [])) :=
  EvG.of fun s Q e q => Subscript_ (x.use e fun u' h₁ t₁ k₁ p₁ => y.use (e.trans k₁) fun v h₂ t₂ k₂ p₂ => by
    subst p₁
    obtain ⟨t, rfl⟩ := p₂
    obtain ⟨l, vs, rfl, hl, hi⟩ := iu
    have eE := eb.trans (e.trans (k₁.trans k₂))
    have hl' := eE.l.isList hl
    refine tail_any (T := "list") (s := { s with heap := h₂, toks := t₂ }) hl'.typeIs slot_list_getitem.lookup ?_ (hs l t)
    obtain ⟨v, hv, hF⟩ := paired_get hi k.toNat (by omega)
    refine wpAny_getItem_list (s := { s with heap := h₂, toks := t₂ }) hl' h0 (by have := paired_length hi; simp; omega) (by simpa using hv) (q _ h₂ t₂ (k₁.trans k₂) (hF.l eE.l) fun a ea => .inr ?_)
    obtain ⟨a', us, ea', ⟨o, ho, _⟩, _⟩ := hF
    rw [ea'] at ea; cases ea
    exact ⟨o, ho⟩)

/-- a call, the list that comes back is new -/
theorem evF_call {f : Str} {p pos : Pos} {args : List PySem.Expr} {fv : Value} {t : Sem Value} {ts : List (Bool × Sem Value)} {ds : List D} {d : D}
    (hf : Ev prog w A h (eval (.Name f p) env) (Is (.val fv))) (hc : Callee h fv)
    (ht : backTo pos (starEach args env) = (false, t) :: ts) (hpl : (ts.any (·.1)) = false)
    (ha : EvArgs prog w A h ((false, t) :: ts) ds)
    (k : ∀ h' vs, Ext h h' → IsAll h' ds vs → EvF prog w A h' (call fv vs) d) : EvF prog w A h (eval (.Call (.Name f p) args [] pos) env) d :=
  EvF.of fun s Q e q => Call_Name ht (hf.use e fun u h₁ t₁ k₁ p₁ => by
    have p₁ : u = fv := p₁
    subst p₁
    have hargs : ∀ (Q' : Args → Shared → Prop), (∀ vs h₂ tk₂, Ext h₁ h₂ → IsAll h₂ ds vs → Q' ⟨vs, []⟩ { s with heap := h₂, toks := tk₂ }) →
        wpAny (model prog w) A (evalArgs u true ((false, t) :: ts) []) Q' (fun _ _ => False) { s with heap := h₁, toks := t₁ } := fun Q' k' =>
      evalArgs_plain (ha.use (e.trans k₁) fun vs h₂ t₂ k₂ p₂ => k' vs h₂ t₂ k₂ p₂)
    have fin : ∀ vs h₂ tk₂, Ext h₁ h₂ → IsAll h₂ ds vs → wpAny (model prog w) A (call u vs []) Q (fun _ _ => False) { s with heap := h₂, toks := tk₂ } := fun vs h₂ tk₂ k₂ p₂ =>
      (k h₂ vs (e.trans (k₁.trans k₂)) p₂).use (Ext.refl _) fun r h₃ t₃ k₃ p₃ f₃ => q r h₃ t₃ (k₁.trans (k₂.trans k₃)) p₃ fun a ea => none_back (k₁.trans k₂) (f₃ a ea)
    have hplain : (((false, t) :: ts).any (·.1)) = false := by simpa using hpl
    cases hc with
    | builtin id => exact callWith_builtin hplain (hargs _ fun vs h₂ tk₂ k₂ p₂ => fin vs h₂ tk₂ k₂ p₂)
    | type T => exact PyProof.Rows.callWith_type hplain (hargs _ fun vs h₂ tk₂ k₂ p₂ => fin vs h₂ tk₂ k₂ p₂)
    | func a o fd p' q' => exact callWith_function (o := o) (fd := fd) (hargs _ fun vs h₂ tk₂ k₂ p₂ => ⟨⟨(e.trans (k₁.trans k₂)) _ _ p', q'⟩, fin vs h₂ tk₂ k₂ p₂⟩))
theorem evF_call3 {f : Str} {p pos : Pos} {fv : Value} {d d1 d2 d3 : D} {e1 e2 e3 : PySem.Expr} (hf : Ev prog w A h (eval (.Name f p) env) (Is (.val fv))) (hc : Callee h fv) (x : Ev prog w A h (eval e1 env) (Is d1)) (y : Ev prog w A h (eval e2 env) (Is d2)) (z : Ev prog w A h (eval e3 env) (Is d3)) (k : ∀ h' v u t, Ext h h' → Is d1 v h' → Is d2 u h' → Is d3 t h' → EvF prog w A h' (call fv [v, u, t]) d)
    (ht : backTo pos (starEach [e1, e2, e3] env) = [(false, eval e1 env), (false, eval e2 env), (false, eval e3 env)] := by rfl) : EvF prog w A h (eval (.Call (.Name f p) [e1, e2, e3] [] pos) env) d :=
  evF_call hf hc ht rfl (args_cons x (args_cons y (args_cons z args_nil))) fun h' vs e i => by
    cases i with
    | cons i r => cases r with
      | cons j r => cases r with
        | cons l r => cases r; exact k h' _ _ _ e i j l
end
end Mine
end

section -- WkS
open PySem PySem.W PyProof.Rows PySem.Calls
set_option Elab.async false
set_option maxRecDepth 100000
set_option maxHeartbeats 2000000
set_option linter.unusedVariables false
namespace Mine
local macro_rules | `(tactic| walk_at "ev") => `(tactic| first
  | exact ev_int
  | exact ev_none
  | exact ev_name (by assumption) rfl rfl rfl
  | (apply ev_add <;> first | (with_unfolding_all rfl) | walk_at "ev")
  | (apply ev_sub <;> first | (with_unfolding_all rfl) | walk_at "ev"))

def lostOf (sets : List (List Int)) : List (List Int) := (List.range sets.length).flatMap fun i => (List.range (sets.getD i []).length).map fun j => (sets.getD i []).take j ++ (sets.getD i []).drop (j + 1)
def apart (l : List (List Int)) : List (List Int) := ((List.range l.length).filter fun i => (i == 0 || !decide (l.getD (i - 1) [] = l.getD i []))).map fun i => l.getD i []
def shadow (sets : List (List Int)) : List (List Int) := apart (isort (lostOf sets))
structure SetsOk (sets : List (List Int)) (k : Nat) : Prop where
  len : sets.length ≤ 26
  size : ∀ s ∈ sets, s.length = k
  k4 : k ≤ 4
  dig : ∀ s ∈ sets, Dig s
theorem SetsOk.get {sets : List (List Int)} {k i : Nat} (o : SetsOk sets k) (hi : i < sets.length) : (sets.getD i []).length = k ∧ Dig (sets.getD i []) := by
  have : sets.getD i [] ∈ sets := by rw [List.getD, List.getElem?_eq_getElem hi]; exact List.getElem_mem _
  exact ⟨o.size _ this, o.dig _ this⟩
theorem lost_mem {sets : List (List Int)} {k : Nat} (o : SetsOk sets k) : ∀ x ∈ lostOf sets, x.length = k - 1 ∧ Dig x := fun x hx => by
  obtain ⟨i, hi, hx⟩ := List.mem_flatMap.mp hx
  obtain ⟨j, hj, rfl⟩ := List.mem_map.mp hx
  obtain ⟨g1, g2⟩ := o.get (List.mem_range.mp hi)
  have hj := List.mem_range.mp hj
  refine ⟨by rw [List.length_append, List.length_take, List.length_drop]; omega, fun y hy => g2 y ?_⟩
  rcases List.mem_append.mp hy with h | h
  · exact List.mem_of_mem_take h
  · exact List.mem_of_mem_drop h
theorem lost_length {sets : List (List Int)} {k : Nat} (o : SetsOk sets k) : (lostOf sets).length = sets.length * k := by
  unfold lostOf
  rw [List.length_flatMap]
  have : ((List.range sets.length).map fun i => ((List.range (sets.getD i []).length).map fun j => (sets.getD i []).take j ++ (sets.getD i []).drop (j + 1)).length) = (List.range sets.length).map fun _ => k := by
    refine List.map_congr_left fun i hi => ?_
    rw [List.length_map, List.length_range]
    exact (o.get (List.mem_range.mp hi)).1
  rw [this]
  generalize sets.length = n
  induction n with
  | zero => simp
  | succ n ih => rw [List.range_succ, List.map_append, List.sum_append, ih, List.map_cons, List.map_nil, List.sum_cons, List.sum_nil, Nat.add_mul]; omega
theorem lost_short {sets : List (List Int)} {k : Nat} (o : SetsOk sets k) : (lostOf sets).length ≤ 104 := by
  rw [lost_length o]
  exact Nat.mul_le_mul o.len o.k4

section
variable {prog : Program} {w : World} {A : Around} {a : Ad} {b : Heap} {s : Shared} {L : Addr} {q : Str} {fo : Option Addr} {cd : Value} {sets : List (List Int)} {k : Nat}
theorem evG_eq {b h : Heap} {t : Sem Value} {a c : D} (x : EvG prog w A b h t a) (q : a = c) : EvG prog w A b h t c := q ▸ x
theorem with_varsG {e : PySem.Expr} {d : D} {env : Env} {b h : Heap} {ρ : Rho} (V : Vars env h ρ) (k : Vars env h ρ → EvG prog w A b h (eval e env) d) : EvG prog w A b h (eval e env) d := k V
abbrev ES (L : Addr) (q : Str) (fo : Option Addr) (cd : Value) : Env := EnvF (dScope (defAt 6)) L (cellsFrom (L + 1) (dScope (defAt 6)).names []) q fo cd
theorem walk_shadow (W : Wd a b) (R : Room 1 A) (F : Fm b (ES L q fo cd) [] s.heap) (V : VarsB (ES L q fo cd) b s.heap [("sets", .zss sets), ("sorted", .val (.builtin "sorted")), ("range", .val (.type "range")), ("len", .val (.builtin "len"))]) (o : SetsOk sets k) :
    Walk prog w A b (ES L q fo cd) (dBody (defAt 6)) s fun v h' => Is (.zss (shadow sets)) v h' := by
  intro E
  have hu : A.units + 64 < cLine := by have := R.units; omega
  have V0 := V.vars F
  have hll := lost_short o
  have hil : (isort (lostOf sets)).length = (lostOf sets).length := (isort_perm _).length_eq
  refine st_assign (d := .zss (isort (lostOf sets))) F V0 (.inr ⟨rfl, _, rfl⟩) (ev_call1 (d1 := .zss (lostOf sets)) (by walk_at "ev") (.builtin _)
    ((ev_comp2 (d := .zss sets) (n := sets.length) (items := fun i => .zs (sets.getD i [])) (fun i => .range 0 ((sets.getD i []).length : Int) 1) (fun i => (sets.getD i []).length) (fun i j => .int (0 + (j : Int) * 1)) (fun i j => .zs ((sets.getD i []).take j ++ (sets.getD i []).drop (j + 1)))
      R.hand (by walk_at "ev") (.zss sets) (by have := o.len; omega) (fun _ _ _ _ => trivial) (fun i hi => ?srcOk) (fun i hi => ⟨_, _, _, rfl⟩) (fun i hi => by have := (o.get hi).1; have := o.k4; omega) rfl (by decide +kernel) rfl (by decide +kernel) rfl rfl (by decide +kernel) ?src ?body).mono fun v h' e x => picked2_zss x)
    (fun h' v e i => ev_sortedL i (by omega) (lost_mem o) hu)) rfl fun h₁ t₁ F₁ V₁ l₁ c₁ => ?_
  case srcOk =>
    have hn : (((sets.getD i []).length : Int) - 0).toNat = (sets.getD i []).length := by omega
    have := (o.get hi).1; have := o.k4
    have z := src_up (a := 0) (b := ((sets.getD i []).length : Int)) (by decide) (by decide) (by omega) (by omega)
    rw [hn] at z; exact z
  case src =>
    intro C i v H m hi e hm hx hv
    have := (o.get hi).1; have := o.k4
    refine with_vars (Named.vars' (.cons (.inl ⟨rfl, m, hm, hx⟩) hv (.val ((W.up (F.keep.trans e)).res rfl rfl .range rfl) (.val ((W.up (F.keep.trans e)).res rfl rfl .len rfl) .nil))) rfl) fun VC => ?_
    exact ev_call1 (d1 := .int (sets.getD i []).length) (by walk_at "ev") (.type _) (ev_len1 (by walk_at "ev") (by walk_at "ev") (by omega)) (fun h' v e i => ev_range1 i)
  case body =>
    intro C i j v u H m hi hj e hm hx hv hx1 hu1
    have g1 := (o.get hi).1; have := o.k4
    have hj0 : (0 + (j : Int) * 1) = (j : Nat) := by omega
    rw [hj0] at hu1
    refine with_varsF (Named.vars' (.cons (x := "one") (.inl ⟨rfl, m, hm, hx⟩) hv (.cons (x := "p") (.inl ⟨rfl, m, hm, hx1⟩) hu1 .nil)) rfl) fun VC => ?_
    refine evF_catZ (ev_slice (ns := sets.getD i []) (lo := none) (hi := some ((j : Nat) : Int)) (by walk_at "ev") .none (.some (by walk_at "ev")) (by omega) (fun vs hi => ⟨vs.take j, by rw [slicePick_upto'], ints_take hi j⟩))
      (ev_slice (ns := sets.getD i []) (lo := some (((j + 1 : Nat) : Nat) : Int)) (hi := none) (by walk_at "ev") (.some (ev_eq (ev_add (a := (j : Nat)) (b := 1) (by walk_at "ev") (by walk_at "ev")) (by rw [Int.natCast_add]; rfl))) .none (by omega) (fun vs hi => ⟨vs.drop (j + 1), by rw [slicePick_from'], ints_drop hi (j + 1)⟩)) (by rw [List.length_take, List.length_drop]; omega)
  · obtain ⟨vl, rl, il⟩ := V₁.2 "lost" _ rfl
    unfold shadow
    generalize isort (lostOf sets) = l at hil il V₁ ⊢
    have hn : ((l.length : Int) - 0).toNat = l.length := by omega
    refine st_ret (s := { s with heap := h₁, toks := t₁ }) (P := Is (.zss (apart l))) ((ev_comp1G (d := .range 0 l.length 1) (n := l.length) (items := fun i => .int (0 + (i : Int) * 1)) (fun i => .zs (l.getD i [])) (fun i => (i == 0 || !decide (l.getD (i - 1) [] = l.getD i []))) R.hand
      (ev_call1 (d1 := .int l.length) (by walk_at "ev") (.type _) (ev_lenL1 (by walk_at "ev") (by walk_at "ev") (by omega)) (fun h' v e i => ev_range1 i)) (hn ▸ src_up (by decide) (by decide) (by omega) (by omega)) (by omega) (fun _ _ => trivial) rfl (by decide +kernel) rfl (by decide +kernel) rfl ?body2).mono fun v h' e x => picked_zss x) fun v h' tk k i => ⟨v, h', tk, rfl, rfl, F₁.keep.trans k, i⟩
    case body2 =>
      intro C i v H m hi e hm hx hv
      have hi0 : (0 + (i : Int) * 1) = (i : Nat) := by omega
      rw [hi0] at hv
      refine ⟨tests_one ?_, fun _ => ?_⟩
      · refine with_varsT (Named.vars' (.cons (x := "p") (d := .int (i : Nat)) (.inl ⟨rfl, m, hm, hx⟩) hv (.cons (x := "lost") (res_comp rl e rfl rfl rfl) (il.l e.l) .nil)) rfl) fun VC => ?_
        refine te_eq (te_or_cons (a := ((i : Nat) : Int) == 0) (b := !decide (l.getD (i - 1) [] = l.getD i []) || false) (te_eqI (by walk_at "ev") (by walk_at "ev")) fun hz => te_or_cons (te_neZ hu ?_ ?_) fun _ => te_or_nil) ?_
        · have hz' : i ≠ 0 := by simpa using hz
          exact ev_eq (ev_itemL (k := ((i - 1 : Nat) : Int)) (by walk_at "ev") (ev_eq (ev_sub (a := (i : Nat)) (b := 1) (by walk_at "ev") (by walk_at "ev")) (by congr 1; omega)) (by omega) (by omega) (by omega)) (by rw [Int.toNat_natCast])
        · exact ev_eq (ev_itemL (k := ((i : Nat) : Int)) (by walk_at "ev") (by walk_at "ev") (by omega) (by omega) (by omega)) (by rw [Int.toNat_natCast])
        · rw [Bool.or_false]
          congr 1
          by_cases h : i = 0
          · subst h; rfl
          · rw [beq_eq_false_iff_ne.mpr h, beq_eq_false_iff_ne.mpr (by omega)]
      · refine with_varsG (Named.vars' (.cons (x := "p") (d := .int (i : Nat)) (.inl ⟨rfl, m, hm, hx⟩) hv (.cons (x := "lost") (res_comp rl e rfl rfl rfl) (il.l e.l) .nil)) rfl) fun VC => ?_
        exact evG_eq (evG_itemL (nss := l) (k := ((i : Nat) : Int)) (ev_res VC.1 (res_comp rl e rfl rfl rfl) rfl rfl) il e (by walk_at "ev") (by omega) (by omega) (by omega)) (by rw [Int.toNat_natCast])

theorem ev_shadow {vs : Value} {h : Heap} (W : Wd a h) (R : Room 2 A) (is : Is (.zss sets) vs h) (o : SetsOk sets k) :
    Ev prog w A h (call (.ref a.S) [vs]) (Is (.zss (shadow sets))) := by
  refine Ev.of fun s Q e q => ?_
  refine call_cells_ (P := fun b v h' => Is (.zss (shadow sets)) v h') W.base W.fS rfl (by have := R.depth; omega) (kindsX rfl) rfl rfl rfl (fun b s L qq fo cd eb hns hc F => ?_) s Q _ e q
  refine walk_shadow (W.up eb) (R.deeper _) F (Named.vars ?_) o
  refine .cons (.inl ⟨rfl, _, hns, rfl⟩) (is.l eb.l) (.val ((W.up (eb.trans F.keep)).res rfl rfl .sorted rfl) (.val ((W.up (eb.trans F.keep)).res rfl rfl .range rfl) (.val ((W.up (eb.trans F.keep)).res rfl rfl .len rfl) .nil)))
end
end Mine
end

section -- Kk
set_option Elab.async false
set_option maxRecDepth 100000
set_option maxHeartbeats 2000000
set_option linter.unusedVariables false
namespace Mine

/-- the least shadows: size k, m sets -/
def kkT : List (List Nat) := [
  [0, 0, 0, 0, 0, 0, 0, 0, 0, 0, 0, 0, 0, 0, 0, 0, 0, 0, 0, 0, 0, 0, 0, 0, 0, 0, 0],
  [0, 1, 1, 1, 1, 1, 1, 1, 1, 1, 1, 1, 1, 1, 1, 1, 1, 1, 1, 1, 1, 1, 1, 1, 1, 1, 1],
  [0, 2, 3, 3, 4, 4, 4, 5, 5, 5, 5, 6, 6, 6, 6, 6, 7, 7, 7, 7, 7, 7, 8, 8, 8, 8, 8],
  [0, 3, 5, 6, 6, 8, 9, 9, 10, 10, 10, 12, 13, 13, 14, 14, 14, 15, 15, 15, 15, 17, 18, 18, 19, 19, 19],
  [0, 4, 7, 9, 10, 10, 13, 15, 16, 16, 18, 19, 19, 20, 20, 20, 23, 25, 26, 26, 28, 29, 29, 30, 30, 30, 32]]
def kk (k m : Nat) : Nat := (kkT.getD k []).getD m 0
theorem kk_step : ∀ k, k < 4 → ∀ a, a < 27 → ∀ b, b < 27 → a + b ≤ 26 → kk (k + 1) (a + b) ≤ max (kk (k + 1) a) b + kk k b := by decide +kernel
theorem kk_zero : ∀ k, k < 5 → kk k 0 = 0 := by decide
theorem kk_none : ∀ m, kk 0 m ≤ 0 := by
  intro m
  rcases Nat.lt_or_ge m 27 with h | h
  · revert m; decide +kernel
  · unfold kk
    rw [List.getD, List.getElem?_eq_none (by show 27 ≤ m; exact h)]
    exact Nat.le_refl 0

def cut (s : List Int) (j : Nat) : List Int := s.take j ++ s.drop (j + 1)
theorem cut_zero (x : Int) (t : List Int) : cut (x :: t) 0 = t := rfl
theorem cut_succ (x : Int) (t : List Int) (j : Nat) : cut (x :: t) (j + 1) = x :: cut t j := rfl

/-- unlike sets of k things below n -/
structure Fam (n k : Nat) (F : List (List Int)) : Prop where
  nodup : F.Nodup
  all : ∀ s ∈ F, s.length = k ∧ s.Pairwise (· > ·) ∧ ∀ x ∈ s, 0 ≤ x ∧ x < (n : Int)

theorem nodup_le {α : Type} [DecidableEq α] : ∀ {l m : List α}, l.Nodup → (∀ x ∈ l, x ∈ m) → l.length ≤ m.length
  | [], _, _, _ => Nat.zero_le _
  | x :: l, m, hn, hs => by
    obtain ⟨h1, h2⟩ := List.nodup_cons.mp hn
    have hx := hs x (.head _)
    have := nodup_le (m := m.erase x) h2 fun y hy => (List.mem_erase_of_ne (fun e => by subst e; exact h1 hy)).mpr (hs y (.tail _ hy))
    rw [List.length_erase_of_mem hx] at this
    have : 0 < m.length := List.length_pos_of_mem hx
    rw [List.length_cons]; omega

def hasTop (n : Nat) : List Int → Bool
  | [] => false
  | x :: _ => x == (n : Int)

theorem kk_bound : ∀ (n k : Nat) (F L : List (List Int)), k ≤ 4 → F.length ≤ 26 → Fam n k F → (∀ s ∈ F, ∀ j, j < s.length → cut s j ∈ L) → kk k F.length ≤ L.length
  | n, 0, F, L, _, _, _, _ => Nat.le_trans (kk_none _) (Nat.zero_le _)
  | 0, k + 1, F, L, hk, _, hF, _ => by
    have : F = [] := by
      cases F with
      | nil => rfl
      | cons s F =>
        obtain ⟨h1, _, h3⟩ := hF.all s (.head _)
        cases s with
        | nil => cases h1
        | cons x t =>
          have := h3 x (.head _)
          omega
    subst this
    rw [List.length_nil, kk_zero _ (by omega)]; exact Nat.zero_le _
  | n + 1, k + 1, F, L, hk, hl, hF, hL => by
    -- in two: with the topmost thing, and without
    have fsplit := List.length_eq_countP_add_countP (hasTop n) (l := F)
    have lsplit := List.length_eq_countP_add_countP (hasTop n) (l := L)
    rw [List.countP_eq_length_filter, List.countP_eq_length_filter] at fsplit lsplit
    have below : ∀ s ∈ F, hasTop n s = false → ∀ x ∈ s, 0 ≤ x ∧ x < (n : Int) := fun s hs ht x hx => by
      obtain ⟨h1, h2, h3⟩ := hF.all s hs
      refine ⟨(h3 x hx).1, ?_⟩
      cases s with
      | nil => cases hx
      | cons y t =>
        have hy : y ≠ (n : Int) := by simpa [hasTop] using ht
        have h4 := (h3 y (.head _)).2
        rcases List.mem_cons.mp hx with rfl | hx
        · omega
        · have := (List.pairwise_cons.mp h2).1 x hx
          omega
    have low : ∀ t : List Int, (∀ x ∈ t, x < (n : Int)) → hasTop n t = false := fun t ht => by
      cases t with
      | nil => rfl
      | cons y t =>
        have := ht y (.head _)
        simp only [hasTop, beq_eq_false_iff_ne]
        omega
    have memcut : ∀ (s : List Int) (j : Nat) (x : Int), x ∈ cut s j → x ∈ s := fun s j x hx => by
      rcases List.mem_append.mp hx with h | h
      · exact List.mem_of_mem_take h
      · exact List.mem_of_mem_drop h
    have F1 : ∀ s ∈ F.filter (hasTop n), ∃ t, s = (n : Int) :: t ∧ s ∈ F := fun s hs => by
      obtain ⟨h1, h2⟩ := List.mem_filter.mp hs
      cases s with
      | nil => cases h2
      | cons y t =>
        have : y = (n : Int) := by simpa [hasTop] using h2
        subst this
        exact ⟨t, rfl, h1⟩
    have tailOk : ∀ t : List Int, ((n : Int) :: t) ∈ F → t.length = k ∧ t.Pairwise (· > ·) ∧ ∀ x ∈ t, 0 ≤ x ∧ x < (n : Int) := fun t ht => by
      obtain ⟨h1, h2, h3⟩ := hF.all _ ht
      obtain ⟨h4, h5⟩ := List.pairwise_cons.mp h2
      exact ⟨by simpa using h1, h5, fun x hx => ⟨(h3 x (.tail _ hx)).1, h4 x hx⟩⟩
    have nd0 : (F.filter fun a => decide ¬hasTop n a = true).Nodup := hF.nodup.sublist List.filter_sublist
    have nd1 : ((F.filter (hasTop n)).map List.tail).Nodup := by
      rw [List.Nodup, List.pairwise_map]
      refine List.Pairwise.imp_of_mem ?_ (hF.nodup.sublist List.filter_sublist)
      intro s u hs hu hne he
      obtain ⟨t, rfl, _⟩ := F1 s hs
      obtain ⟨t', rfl, _⟩ := F1 u hu
      exact hne (by rw [show t = t' from he])
    -- what lacks the topmost thing
    have a0 : kk (k + 1) (F.filter fun a => decide ¬hasTop n a = true).length ≤ (L.filter fun a => decide ¬hasTop n a = true).length := by
      refine kk_bound n (k + 1) _ _ hk (Nat.le_trans (List.length_filter_le _ _) hl) ⟨nd0, fun s hs => ?_⟩ fun s hs j hj => ?_
      · obtain ⟨h1, h2⟩ := List.mem_filter.mp hs
        obtain ⟨g1, g2, _⟩ := hF.all s h1
        exact ⟨g1, g2, below s h1 (by simpa using h2)⟩
      · obtain ⟨h1, h2⟩ := List.mem_filter.mp hs
        refine List.mem_filter.mpr ⟨hL s h1 j hj, ?_⟩
        have := low (cut s j) fun x hx => (below s h1 (by simpa using h2) x (memcut s j x hx)).2
        simp [this]
    have a1 : (F.filter (hasTop n)).length ≤ (L.filter fun a => decide ¬hasTop n a = true).length := by
      have := nodup_le (m := L.filter fun a => decide ¬hasTop n a = true) nd1 fun t ht => by
        obtain ⟨s, hs, rfl⟩ := List.mem_map.mp ht
        obtain ⟨t, rfl, hm⟩ := F1 s hs
        refine List.mem_filter.mpr ⟨hL _ hm 0 (by simp), ?_⟩
        have := low t fun x hx => ((tailOk t hm).2.2 x hx).2
        simp [this]
      rwa [List.length_map] at this
    -- what has it
    have a2 : kk k (F.filter (hasTop n)).length ≤ (L.filter (hasTop n)).length := by
      have := kk_bound n k ((F.filter (hasTop n)).map List.tail) ((L.filter (hasTop n)).map List.tail) (by omega) (by rw [List.length_map]; exact Nat.le_trans (List.length_filter_le _ _) hl) ⟨nd1, fun t ht => ?_⟩ fun t ht j hj => ?_
      · rwa [List.length_map, List.length_map] at this
      · obtain ⟨s, hs, rfl⟩ := List.mem_map.mp ht
        obtain ⟨t, rfl, hm⟩ := F1 s hs
        exact tailOk t hm
      · obtain ⟨s, hs, rfl⟩ := List.mem_map.mp ht
        obtain ⟨t, rfl, hm⟩ := F1 s hs
        have hj : j < t.length := hj
        refine List.mem_map.mpr ⟨(n : Int) :: cut t j, List.mem_filter.mpr ⟨?_, by simp [hasTop]⟩, rfl⟩
        have := hL _ hm (j + 1) (by simpa using hj)
        rwa [cut_succ] at this
    have st := kk_step k (by omega) (F.filter fun a => decide ¬hasTop n a = true).length (by omega) (F.filter (hasTop n)).length (by omega) (by omega)
    have e : (F.filter fun a => decide ¬hasTop n a = true).length + (F.filter (hasTop n)).length = F.length := by omega
    rw [e] at st
    omega

/-- nothing goes lost when neighbours that are alike are left out -/
theorem mem_apart {l : List (List Int)} {x : List Int} (hx : x ∈ l) : x ∈ apart l := by
  have key : ∀ i, i < l.length → l.getD i [] ∈ apart l := by
    intro i
    induction i with
    | zero => intro h; exact List.mem_map.mpr ⟨0, List.mem_filter.mpr ⟨List.mem_range.mpr h, rfl⟩, rfl⟩
    | succ i ih =>
      intro h
      by_cases e : l.getD i [] = l.getD (i + 1) []
      · rw [← e]; exact ih (by omega)
      · refine List.mem_map.mpr ⟨i + 1, List.mem_filter.mpr ⟨List.mem_range.mpr h, ?_⟩, rfl⟩
        simp only [Nat.add_sub_cancel]
        rw [decide_eq_false e]
        simp
  obtain ⟨i, hi, rfl⟩ := List.getElem_of_mem hx
  have := key i hi
  rwa [List.getD, List.getElem?_eq_getElem hi] at this
theorem shadow_bound {n k : Nat} {F : List (List Int)} (hk : k ≤ 4) (hl : F.length ≤ 26) (hF : Fam n k F) : kk k F.length ≤ (shadow F).length := by
  refine kk_bound n k F _ hk hl hF fun s hs j hj => mem_apart ((isort_perm _).mem_iff.mpr ?_)
  obtain ⟨i, hi, rfl⟩ := List.getElem_of_mem hs
  refine List.mem_flatMap.mpr ⟨i, List.mem_range.mpr hi, List.mem_map.mpr ⟨j, List.mem_range.mpr ?_, ?_⟩⟩
  · rw [List.getD, List.getElem?_eq_getElem hi]; exact hj
  · rw [List.getD, List.getElem?_eq_getElem hi]; rfl
end Mine
end

section -- Tb
open PySem PySem.W PyProof.Rows PySem.Calls
set_option Elab.async false
set_option maxRecDepth 100000
set_option maxHeartbeats 2000000
set_option linter.unusedVariables false
namespace Mine

def RL : List (List (List Int)) := [
  [[1, 1, 1, 1, 1, 1, 1], [0, 1, 2, 3, 4, 5, 6], [0, 0, 1, 3, 6, 10, 15], [0, 0, 0, 1, 4, 10, 20], [0, 0, 0, 0, 1, 5, 15], [0, 0, 0, 0, 0, 1, 6]],
  [[1, 1, 1, 1, 1, 1, 1, 1], [0, 1, 2, 3, 4, 5, 6, 7], [0, 0, 1, 3, 6, 10, 15, 21], [0, 0, 0, 1, 4, 10, 20, 35], [0, 0, 0, 0, 1, 5, 15, 35], [0, 0, 0, 0, 0, 1, 6, 21]],
  [[1, 1, 1, 1, 1, 1, 1, 1, 1], [0, 1, 2, 3, 4, 5, 6, 7, 8], [0, 0, 1, 3, 6, 10, 15, 21, 28], [0, 0, 0, 1, 4, 10, 20, 35, 56], [0, 0, 0, 0, 1, 5, 15, 35, 70], [0, 0, 0, 0, 0, 1, 6, 21, 56]],
  [[1, 1, 1, 1, 1, 1, 1, 1, 1, 1], [0, 1, 2, 3, 4, 5, 6, 7, 8, 9], [0, 0, 1, 3, 6, 10, 15, 21, 28, 36], [0, 0, 0, 1, 4, 10, 20, 35, 56, 84], [0, 0, 0, 0, 1, 5, 15, 35, 70, 126], [0, 0, 0, 0, 0, 1, 6, 21, 56, 126]],
  [[1, 1, 1, 1, 1, 1, 1, 1, 1, 1, 1], [0, 1, 2, 3, 4, 5, 6, 7, 8, 9, 10], [0, 0, 1, 3, 6, 10, 15, 21, 28, 36, 45], [0, 0, 0, 1, 4, 10, 20, 35, 56, 84, 120], [0, 0, 0, 0, 1, 5, 15, 35, 70, 126, 210], [0, 0, 0, 0, 0, 1, 6, 21, 56, 126, 252]],
  [[1, 1, 1, 1, 1, 1, 1, 1, 1, 1, 1, 1], [0, 1, 2, 3, 4, 5, 6, 7, 8, 9, 10, 11], [0, 0, 1, 3, 6, 10, 15, 21, 28, 36, 45, 55], [0, 0, 0, 1, 4, 10, 20, 35, 56, 84, 120, 165], [0, 0, 0, 0, 1, 5, 15, 35, 70, 126, 210, 330], [0, 0, 0, 0, 0, 1, 6, 21, 56, 126, 252, 462]]]
def R12 : List (List Int) := RL.getD 5 []
theorem RL_eq : ∀ i, i < 6 → pascal (i + 7) = RL.getD i [] := by decide +kernel
def whole (i k : Nat) : Nat := (((RL.getD i []).getD k []).getD (i + 4) 0).toNat
def okT (i k r : Nat) : Bool :=
  (List.range k).all (fun j => decide (0 ≤ thA (RL.getD i []) k r j) && decide (thA (RL.getD i []) k r j < (((RL.getD i []).getD (k - j) []).length : Int))) &&
  (number (RL.getD i []) (things R12 k r) == (r : Int)) && (things (RL.getD i []) k r == things R12 k r) && decide ((things R12 k r).Pairwise (· > ·)) && (things R12 k r).all (fun x => decide (0 ≤ x) && decide (x < ((i + 4 : Nat) : Int)))
theorem okT_0_0 : ((List.range (whole 0 (0 + 2))).all fun r => okT 0 (0 + 2) r) = true := by decide +kernel
theorem okT_0_1 : ((List.range (whole 0 (1 + 2))).all fun r => okT 0 (1 + 2) r) = true := by decide +kernel
theorem okT_0_2 : ((List.range (whole 0 (2 + 2))).all fun r => okT 0 (2 + 2) r) = true := by decide +kernel
theorem okT_1_0 : ((List.range (whole 1 (0 + 2))).all fun r => okT 1 (0 + 2) r) = true := by decide +kernel
theorem okT_1_1 : ((List.range (whole 1 (1 + 2))).all fun r => okT 1 (1 + 2) r) = true := by decide +kernel
theorem okT_1_2 : ((List.range (whole 1 (2 + 2))).all fun r => okT 1 (2 + 2) r) = true := by decide +kernel
theorem okT_2_0 : ((List.range (whole 2 (0 + 2))).all fun r => okT 2 (0 + 2) r) = true := by decide +kernel
theorem okT_2_1 : ((List.range (whole 2 (1 + 2))).all fun r => okT 2 (1 + 2) r) = true := by decide +kernel
theorem okT_2_2 : ((List.range (whole 2 (2 + 2))).all fun r => okT 2 (2 + 2) r) = true := by decide +kernel
theorem okT_3_0 : ((List.range (whole 3 (0 + 2))).all fun r => okT 3 (0 + 2) r) = true := by decide +kernel
theorem okT_3_1 : ((List.range (whole 3 (1 + 2))).all fun r => okT 3 (1 + 2) r) = true := by decide +kernel
theorem okT_3_2 : ((List.range (whole 3 (2 + 2))).all fun r => okT 3 (2 + 2) r) = true := by decide +kernel
theorem okT_4_0 : ((List.range (whole 4 (0 + 2))).all fun r => okT 4 (0 + 2) r) = true := by decide +kernel
theorem okT_4_1 : ((List.range (whole 4 (1 + 2))).all fun r => okT 4 (1 + 2) r) = true := by decide +kernel
theorem okT_4_2 : ((List.range (whole 4 (2 + 2))).all fun r => okT 4 (2 + 2) r) = true := by decide +kernel
theorem okT_5_0 : ((List.range (whole 5 (0 + 2))).all fun r => okT 5 (0 + 2) r) = true := by decide +kernel
theorem okT_5_1 : ((List.range (whole 5 (1 + 2))).all fun r => okT 5 (1 + 2) r) = true := by decide +kernel
theorem okT_5_2 : ((List.range (whole 5 (2 + 2))).all fun r => okT 5 (2 + 2) r) = true := by decide +kernel
theorem okT_at : ∀ i, i < 6 → ∀ k, k < 3 → ((List.range (whole i (k + 2))).all fun r => okT i (k + 2) r) = true
  | 0, _, 0, _ => okT_0_0
  | 0, _, 1, _ => okT_0_1
  | 0, _, 2, _ => okT_0_2
  | 1, _, 0, _ => okT_1_0
  | 1, _, 1, _ => okT_1_1
  | 1, _, 2, _ => okT_1_2
  | 2, _, 0, _ => okT_2_0
  | 2, _, 1, _ => okT_2_1
  | 2, _, 2, _ => okT_2_2
  | 3, _, 0, _ => okT_3_0
  | 3, _, 1, _ => okT_3_1
  | 3, _, 2, _ => okT_3_2
  | 4, _, 0, _ => okT_4_0
  | 4, _, 1, _ => okT_4_1
  | 4, _, 2, _ => okT_4_2
  | 5, _, 0, _ => okT_5_0
  | 5, _, 1, _ => okT_5_1
  | 5, _, 2, _ => okT_5_2
  | _ + 6, h, _, _ => absurd h (by omega)
  | _, _, _ + 3, h => absurd h (by omega)
def bdJ (rows : List (List Int)) (k m : Nat) : Nat := if thN rows k m 1 ≤ 0 then 1 else if thN rows k m 2 ≤ 0 then 2 else if thN rows k m 3 ≤ 0 then 3 else 4
def okB (i k m : Nat) : Bool :=
  (List.range (bdJ (RL.getD i []) k m)).all (fun j => decide (0 < thN (RL.getD i []) k m j) && decide (j < k) && decide (thA (RL.getD i []) k m j < bdT (RL.getD i []) k m j) && decide (((k - j : Nat) : Int) ≤ thA (RL.getD i []) k m j) &&
    decide (thA (RL.getD i []) k m j < (((RL.getD i []).getD (k - j) []).length : Int)) && decide (thA (RL.getD i []) k m j < (((RL.getD i []).getD (k - j - 1) []).length : Int))) &&
  decide (thN (RL.getD i []) k m (bdJ (RL.getD i []) k m) ≤ 0) && decide (bdJ (RL.getD i []) k m ≤ k) && (bdB (RL.getD i []) k m (bdJ (RL.getD i []) k m) == (kk k m : Int)) && decide (1 ≤ kk k m)
theorem okB_all : ((List.range 6).all fun i => (List.range 3).all fun k => (List.range (min 26 (whole i (k + 2)))).all fun m => okB i (k + 2) (m + 1)) = true := by decide +kernel
def okL (k p : Nat) : Bool := lexLt (things R12 k p) (things R12 k (p + 1))
theorem okL_all : ((List.range 3).all fun k => (List.range 26).all fun p => okL (k + 2) p) = true := by decide +kernel
def headOf (k m : Nat) : List (List Int) := (List.range m).map fun (r : Nat) => things R12 k (r : Int)
end Mine
end

section -- Tb2
set_option Elab.async false
set_option maxRecDepth 100000
set_option maxHeartbeats 4000000
set_option linter.unusedVariables false
namespace Mine
def okU (k m : Nat) : Bool := (shadow (headOf k m)).map (number R12) == (List.range (kk k m)).map fun (i : Nat) => (i : Int)
theorem okU_0_0 : ((List.range 26).all fun m => okU (0 + 2) (m + 0 + 1)) = true := by decide +kernel
theorem okU_1_0 : ((List.range 16).all fun m => okU (1 + 2) (m + 0 + 1)) = true := by decide +kernel
theorem okU_1_16 : ((List.range 6).all fun m => okU (1 + 2) (m + 16 + 1)) = true := by decide +kernel
theorem okU_1_22 : ((List.range 4).all fun m => okU (1 + 2) (m + 22 + 1)) = true := by decide +kernel
theorem okU_2_0 : ((List.range 10).all fun m => okU (2 + 2) (m + 0 + 1)) = true := by decide +kernel
theorem okU_2_10 : ((List.range 4).all fun m => okU (2 + 2) (m + 10 + 1)) = true := by decide +kernel
theorem okU_2_14 : ((List.range 4).all fun m => okU (2 + 2) (m + 14 + 1)) = true := by decide +kernel
theorem okU_2_18 : ((List.range 3).all fun m => okU (2 + 2) (m + 18 + 1)) = true := by decide +kernel
theorem okU_2_21 : ((List.range 3).all fun m => okU (2 + 2) (m + 21 + 1)) = true := by decide +kernel
theorem okU_2_24 : ((List.range 2).all fun m => okU (2 + 2) (m + 24 + 1)) = true := by decide +kernel
set_option maxHeartbeats 400000 in
theorem okU_at {k m : Nat} (hk : k < 3) (hm : m < 26) : okU (k + 2) (m + 1) = true := by
  have pick : ∀ {k a n : Nat}, ((List.range n).all fun m => okU (k + 2) (m + a + 1)) = true → a ≤ m → m < a + n → okU (k + 2) (m + 1) = true := fun {k a n} h h1 h2 => by
    have := List.all_eq_true.mp h (m - a) (List.mem_range.mpr (by omega))
    rwa [show m - a + a = m by omega] at this
  rcases (show k = 0 ∨ k = 1 ∨ k = 2 by omega) with rfl | rfl | rfl
  · exact pick (k := 0) (a := 0) (n := 26) okU_0_0 (by omega) (by omega)
  · rcases (show (0 ≤ m ∧ m < 16) ∨ (16 ≤ m ∧ m < 22) ∨ (22 ≤ m ∧ m < 26) by omega) with h | h | h
    · exact pick (k := 1) (a := 0) (n := 16) okU_1_0 (by omega) (by omega)
    · exact pick (k := 1) (a := 16) (n := 6) okU_1_16 (by omega) (by omega)
    · exact pick (k := 1) (a := 22) (n := 4) okU_1_22 (by omega) (by omega)
  · rcases (show (0 ≤ m ∧ m < 10) ∨ (10 ≤ m ∧ m < 14) ∨ (14 ≤ m ∧ m < 18) ∨ (18 ≤ m ∧ m < 21) ∨ (21 ≤ m ∧ m < 24) ∨ (24 ≤ m ∧ m < 26) by omega) with h | h | h | h | h | h
    · exact pick (k := 2) (a := 0) (n := 10) okU_2_0 (by omega) (by omega)
    · exact pick (k := 2) (a := 10) (n := 4) okU_2_10 (by omega) (by omega)
    · exact pick (k := 2) (a := 14) (n := 4) okU_2_14 (by omega) (by omega)
    · exact pick (k := 2) (a := 18) (n := 3) okU_2_18 (by omega) (by omega)
    · exact pick (k := 2) (a := 21) (n := 3) okU_2_21 (by omega) (by omega)
    · exact pick (k := 2) (a := 24) (n := 2) okU_2_24 (by omega) (by omega)
end Mine
end

section -- Tb3
open PySem PySem.W PyProof.Rows PySem.Calls
set_option Elab.async false
set_option maxRecDepth 100000
set_option maxHeartbeats 2000000
set_option linter.unusedVariables false
namespace Mine

theorem pascal_length (top : Nat) : (pascal top).length = 6 := by simp [pascal]
theorem pascal_row {top : Nat} : ∀ r ∈ pascal top, r.length = top := fun r hr => by
  obtain ⟨i, _, rfl⟩ := List.mem_map.mp hr
  exact pas_length _ _
theorem pascal_get {top a : Nat} (h : a < 6) : ((pascal top).getD a []).length = top := by
  rw [List.getD, List.getElem?_eq_getElem (by rw [pascal_length]; exact h)]
  exact pascal_row _ (List.getElem_mem _)
theorem whole_ok : ∀ i, i < 6 → ∀ k, k < 5 → 2 ≤ k → 1 ≤ whole i k ∧ whole i k ≤ 126 ∧ ((RL.getD i []).getD k []).getD (i + 4) 0 = (whole i k : Int) := by decide +kernel
theorem small_ok : ∀ i, i < 6 → ∀ a, a < 6 → ∀ j, j < 12 → 0 ≤ ((RL.getD i []).getD a []).getD j 0 ∧ ((RL.getD i []).getD a []).getD j 0 ≤ 1000 := by decide +kernel
theorem same_ok : ∀ i, i < 6 → ∀ a, a < 6 → ∀ j, j < i + 7 → ((RL.getD i []).getD a []).getD j 0 = (R12.getD a []).getD j 0 := by decide +kernel

theorem all_range {n : Nat} {p : Nat → Bool} (h : (List.range n).all p = true) {i : Nat} (hi : i < n) : p i = true := List.all_eq_true.mp h i (List.mem_range.mpr hi)

section
variable {i k : Nat} (hi : i < 6) (h2 : 2 ≤ k) (h4 : k ≤ 4)
include hi h2 h4
theorem whole_eq : ((pascal (i + 7)).getD k []).getD (i + 4) 0 = (whole i k : Int) := by
  rw [RL_eq i hi]; exact (whole_ok i hi k (by omega) h2).2.2
theorem whole_pos : 1 ≤ whole i k := (whole_ok i hi k (by omega) h2).1
theorem whole_le : whole i k ≤ 126 := (whole_ok i hi k (by omega) h2).2.1

structure Thing (i k r : Nat) : Prop where
  ok : thOk (pascal (i + 7)) k r
  eq : things (pascal (i + 7)) k r = things R12 k r
  back : number (pascal (i + 7)) (things R12 k r) = r
  fall : (things R12 k r).Pairwise (· > ·)
  low : ∀ x ∈ things R12 k r, 0 ≤ x ∧ x < ((i + 4 : Nat) : Int)
theorem thing_ok {r : Nat} (hr : r < whole i k) : Thing i k r := by
  have h := all_range (okT_at i hi (k - 2) (by omega)) (i := r) (by rw [show k - 2 + 2 = k by omega]; exact hr)
  rw [show k - 2 + 2 = k by omega] at h
  unfold okT at h
  simp only [Bool.and_eq_true, decide_eq_true_eq, beq_iff_eq, List.all_eq_true] at h
  obtain ⟨⟨⟨⟨a1, a2⟩, a3⟩, a4⟩, a5⟩ := h
  rw [← RL_eq i hi] at a1 a2 a3
  exact ⟨fun j hj => a1 j (List.mem_range.mpr hj), a3, a2, a4, a5⟩

theorem bound_ok {m : Nat} (hm1 : 1 ≤ m) (hm : m ≤ 26) (hmw : m ≤ whole i k) : ∃ J, J ≤ k ∧ bdOk (pascal (i + 7)) k m J ∧ bdB (pascal (i + 7)) k m J = (kk k m : Int) ∧ 1 ≤ kk k m := by
  have h := all_range (all_range (all_range okB_all hi) (i := k - 2) (by omega)) (i := m - 1) (by rw [show k - 2 + 2 = k by omega]; omega)
  rw [show k - 2 + 2 = k by omega, show m - 1 + 1 = m by omega] at h
  unfold okB at h
  simp only [Bool.and_eq_true, decide_eq_true_eq, beq_iff_eq, List.all_eq_true] at h
  rw [← RL_eq i hi] at h
  obtain ⟨⟨⟨⟨a1, a2⟩, a3⟩, a4⟩, a5⟩ := h
  refine ⟨_, a3, ⟨fun j hj => ?_, a2⟩, a4, a5⟩
  obtain ⟨⟨⟨⟨⟨b1, b2⟩, b3⟩, b4⟩, b5⟩, b6⟩ := a1 j (List.mem_range.mpr hj)
  exact ⟨b1, b2, b3, b4, b5, b6⟩

theorem sum_small : ∀ (l : List Int), (∀ x ∈ l, 0 ≤ x ∧ x ≤ 1000) → 0 ≤ l.sum ∧ l.sum ≤ 1000 * l.length
  | [], _ => ⟨Int.le_refl _, by simp⟩
  | x :: l, h => by
    obtain ⟨h1, h2⟩ := sum_small l fun y hy => h y (.tail _ hy)
    obtain ⟨h3, h4⟩ := h x (.head _)
    rw [List.sum_cons, List.length_cons]
    omega

theorem num_ok {p : List Int} (hp : p.length ≤ 4) (hx : ∀ x ∈ p, 0 ≤ x ∧ x < ((i + 4 : Nat) : Int)) : numOk (pascal (i + 7)) p := by
  have get : ∀ j, j < p.length → 0 ≤ p.getD j 0 ∧ p.getD j 0 < ((i + 4 : Nat) : Int) := fun j hj => by
    rw [List.getD, List.getElem?_eq_getElem hj]; exact hx _ (List.getElem_mem _)
  have ent : ∀ j, j < p.length → 0 ≤ ((pascal (i + 7)).getD (p.length - j) []).getD (p.getD j 0).toNat 0 ∧ ((pascal (i + 7)).getD (p.length - j) []).getD (p.getD j 0).toNat 0 ≤ 1000 := fun j hj => by
    have := get j hj
    rw [RL_eq i hi]
    exact small_ok i hi _ (by omega) _ (by omega)
  have all : ∀ x ∈ (List.range p.length).map fun j => ((pascal (i + 7)).getD (p.length - j) []).getD (p.getD j 0).toNat 0, 0 ≤ x ∧ x ≤ 1000 := fun x hx => by
    obtain ⟨j, hj, rfl⟩ := List.mem_map.mp hx
    exact ent j (List.mem_range.mp hj)
  refine ⟨fun j hj => ?_, fun j hj => ?_⟩
  · have := get j hj
    rw [pascal_get (by omega)]
    omega
  · have hl : ((List.range p.length).map fun j => ((pascal (i + 7)).getD (p.length - j) []).getD (p.getD j 0).toNat 0).length = p.length := by simp
    generalize ((List.range p.length).map fun j => ((pascal (i + 7)).getD (p.length - j) []).getD (p.getD j 0).toNat 0) = l at all hl
    constructor
    · have : 0 ≤ l.getD j 0 ∧ l.getD j 0 ≤ 1000 := by
        rw [List.getD, List.getElem?_eq_getElem (by omega)]; exact all _ (List.getElem_mem _)
      exact ⟨by omega, by omega⟩
    · obtain ⟨s1, s2⟩ := sum_small hi h2 h4 (l.take (j + 1)) fun x hx => all x (List.mem_of_mem_take hx)
      have : (l.take (j + 1)).length ≤ 4 := by rw [List.length_take]; omega
      exact ⟨by omega, by omega⟩
theorem number_same {p : List Int} (hp : p.length ≤ 4) (hx : ∀ x ∈ p, 0 ≤ x ∧ x < ((i + 4 : Nat) : Int)) : number (pascal (i + 7)) p = number R12 p := by
  unfold number
  congr 1
  refine List.map_congr_left fun j hj => ?_
  have hj := List.mem_range.mp hj
  have : 0 ≤ p.getD j 0 ∧ p.getD j 0 < ((i + 4 : Nat) : Int) := by
    rw [List.getD, List.getElem?_eq_getElem hj]; exact hx _ (List.getElem_mem _)
  rw [RL_eq i hi]
  exact same_ok i hi _ (by omega) _ (by omega)
end

theorem things_length (rows : List (List Int)) (k : Nat) (r : Int) : (things rows k r).length = k := by simp [things]
theorem rise_ok {k p : Nat} (h2 : 2 ≤ k) (h4 : k ≤ 4) (hp : p < 26) : lexLt (things R12 k p) (things R12 k (p + 1)) = true := by
  have h := all_range (all_range okL_all (i := k - 2) (by omega)) (i := p) hp
  rw [show k - 2 + 2 = k by omega] at h
  exact h
theorem under_ok {k m : Nat} (h2 : 2 ≤ k) (h4 : k ≤ 4) (h1 : 1 ≤ m) (hm : m ≤ 26) : (shadow (headOf k m)).map (number R12) = (List.range (kk k m)).map fun (i : Nat) => (i : Int) := by
  have h := okU_at (k := k - 2) (m := m - 1) (by omega) (by omega)
  rw [show k - 2 + 2 = k by omega, show m - 1 + 1 = m by omega] at h
  unfold okU at h
  exact eq_of_beq h

theorem apart_mem {l : List (List Int)} {x : List Int} (hx : x ∈ apart l) : x ∈ l := by
  obtain ⟨i, hi, rfl⟩ := List.mem_map.mp hx
  have := List.mem_range.mp (List.mem_filter.mp hi).1
  rw [List.getD, List.getElem?_eq_getElem this]
  exact List.getElem_mem _
theorem shadow_mem {sets : List (List Int)} {x : List Int} (hx : x ∈ shadow sets) : x ∈ lostOf sets := (isort_perm _).mem_iff.mp (apart_mem hx)
theorem lost_from {sets : List (List Int)} {x : List Int} (hx : x ∈ lostOf sets) : ∃ s ∈ sets, ∀ y ∈ x, y ∈ s := by
  obtain ⟨i, hi, hx⟩ := List.mem_flatMap.mp hx
  obtain ⟨j, hj, rfl⟩ := List.mem_map.mp hx
  have hi := List.mem_range.mp hi
  refine ⟨sets.getD i [], by rw [List.getD, List.getElem?_eq_getElem hi]; exact List.getElem_mem _, fun y hy => ?_⟩
  rcases List.mem_append.mp hy with h | h
  · exact List.mem_of_mem_take h
  · exact List.mem_of_mem_drop h

/-- the family that a row of unlike numbers stands for -/
theorem sets_ok {i k : Nat} (hi : i < 6) (h2 : 2 ≤ k) (h4 : k ≤ 4) {rs : List Nat} (hl : rs.length ≤ 26) (hr : ∀ r ∈ rs, r < whole i k) : SetsOk (rs.map fun (r : Nat) => things R12 k (r : Int)) k where
  len := by rw [List.length_map]; exact hl
  size := fun s hs => by obtain ⟨r, _, rfl⟩ := List.mem_map.mp hs; exact things_length _ _ _
  k4 := h4
  dig := fun s hs => by
    obtain ⟨r, h, rfl⟩ := List.mem_map.mp hs
    exact fun x hx => by have := (thing_ok hi h2 h4 (hr r h)).low x hx; omega
theorem sets_fam {i k : Nat} (hi : i < 6) (h2 : 2 ≤ k) (h4 : k ≤ 4) {rs : List Nat} (hn : rs.Nodup) (hr : ∀ r ∈ rs, r < whole i k) : Fam (i + 4) k (rs.map fun (r : Nat) => things R12 k (r : Int)) where
  nodup := by
    rw [List.Nodup, List.pairwise_map]
    refine List.Pairwise.imp_of_mem ?_ hn
    intro a b ha hb hne e
    have h1 := (thing_ok hi h2 h4 (hr a ha)).back
    have h2 := (thing_ok hi h2 h4 (hr b hb)).back
    rw [e, h2] at h1
    omega
  all := fun s hs => by
    obtain ⟨r, h, rfl⟩ := List.mem_map.mp hs
    have t := thing_ok hi h2 h4 (hr r h)
    exact ⟨things_length _ _ _, t.fall, t.low⟩
end Mine
end

section -- Ev3
open PySem PySem.W PyProof.Rows PySem.Calls
set_option Elab.async false
set_option maxRecDepth 100000
set_option maxHeartbeats 2000000
set_option linter.unusedVariables false
namespace Mine

def zIns (x : Int) : List Int → List Int
  | [] => [x]
  | y :: ys => if x ≤ y then x :: y :: ys else y :: zIns x ys
def zSort (l : List Int) : List Int := l.foldr zIns []
theorem zIns_perm (x : Int) : ∀ l, (zIns x l).Perm (x :: l)
  | [] => .refl _
  | y :: ys => by
    unfold zIns
    split
    · exact .refl _
    · exact ((zIns_perm x ys).cons y).trans (.swap x y ys)
theorem zIns_sorted {x : Int} : ∀ {l : List Int}, l.Pairwise (· ≤ ·) → (zIns x l).Pairwise (· ≤ ·)
  | [], _ => List.pairwise_singleton _ _
  | y :: ys, h => by
    obtain ⟨h1, h2⟩ := List.pairwise_cons.mp h
    unfold zIns
    split
    · rename_i hx
      refine List.pairwise_cons.mpr ⟨fun z hz => ?_, h⟩
      rcases List.mem_cons.mp hz with rfl | hz
      · exact hx
      · exact Int.le_trans hx (h1 z hz)
    · rename_i hx
      refine List.pairwise_cons.mpr ⟨fun z hz => ?_, zIns_sorted h2⟩
      rcases List.mem_cons.mp ((zIns_perm x ys).mem_iff.mp hz) with rfl | hz
      · omega
      · exact h1 z hz
theorem zSort_perm : ∀ l, (zSort l).Perm l
  | [] => .refl _
  | x :: l => (zIns_perm x (zSort l)).trans ((zSort_perm l).cons x)
theorem zSort_sorted : ∀ l, (zSort l).Pairwise (· ≤ ·)
  | [] => .nil
  | x :: l => zIns_sorted (zSort_sorted l)

/-- equal neighbours left out -/
def zApart (l : List Int) : List Int := ((List.range l.length).filter fun i => (i == 0 || (l.getD (i - 1) 0 != l.getD i 0))).map fun i => l.getD i 0
theorem zApart_mem {l : List Int} {x : Int} (hx : x ∈ zApart l) : x ∈ l := by
  obtain ⟨i, hi, rfl⟩ := List.mem_map.mp hx
  have := List.mem_range.mp (List.mem_filter.mp hi).1
  rw [List.getD, List.getElem?_eq_getElem this]
  exact List.getElem_mem _
theorem zApart_length (l : List Int) : (zApart l).length ≤ l.length := by
  unfold zApart
  rw [List.length_map]
  exact Nat.le_trans (List.length_filter_le _ _) (by simp)
theorem zApart_pos {l : List Int} (h : 0 < l.length) : 0 < (zApart l).length :=
  List.length_pos_of_mem (List.mem_map.mpr ⟨0, List.mem_filter.mpr ⟨List.mem_range.mpr h, rfl⟩, rfl⟩)
theorem zApart_rise {l : List Int} (h : l.Pairwise (· ≤ ·)) : (zApart l).Pairwise (· < ·) := by
  have up : ∀ i j, i ≤ j → j < l.length → l.getD i 0 ≤ l.getD j 0 := fun i j hij hj => by
    rw [List.getD, List.getD, List.getElem?_eq_getElem hj, List.getElem?_eq_getElem (show i < l.length by omega)]
    rcases Nat.lt_or_ge i j with h' | h'
    · exact List.pairwise_iff_getElem.mp h i j (by omega) hj h'
    · have : i = j := by omega
      subst this; exact Int.le_refl _
  unfold zApart
  rw [List.pairwise_map]
  refine List.Pairwise.imp_of_mem ?_ (List.pairwise_lt_range.sublist List.filter_sublist)
  intro i j hi hj hij
  obtain ⟨hj1, hj2⟩ := List.mem_filter.mp hj
  have hj1 := List.mem_range.mp hj1
  have hne : l.getD (j - 1) 0 ≠ l.getD j 0 := by
    rcases Bool.or_eq_true _ _ ▸ hj2 with h' | h'
    · have : j = 0 := by simpa using h'
      omega
    · simpa using h'
  have h1 := up i (j - 1) (by omega) (by omega)
  have h2 := up (j - 1) j (by omega) hj1
  omega

section
variable {prog : Program} {w : World} {A : Around} {h : Heap}
theorem ev_sortedZ {v : Value} {ns : List Int} (p : Is (.zs ns) v h) (hl : ns.length < 64) : Ev prog w A h (call (.builtin "sorted") [v]) (Is (.zs (zSort ns))) := by
  obtain ⟨a, vs, rfl, l, hi⟩ := p
  refine Ev.of fun s Q e q => sorted_ints (e.l.isList l) hi (by rw [hi.length]; exact hl) fun out ns' h1 h2 h3 => ?_
  obtain ⟨n, hat⟩ := sortedAll_at s.heap vs out
  have e1 : ns' = zSort ns := List.Perm.eq_of_pairwise (le := fun a b => a ≤ b) (fun x y _ _ h1 h2 => Int.le_antisymm h1 h2) h3 (zSort_sorted ns) (h2.trans (zSort_perm ns).symm)
  rw [← e1] at q
  exact q _ _ s.toks (fun b o => sortedAll_old) ⟨_, out.toList, rfl, ⟨_, hat, rfl, n, rfl⟩, h1⟩

theorem ev_listRange {v : Value} {n : Nat} (p : Is (.range 0 n 1) v h) (hh : A.handled = none) (hn : n ≤ 1000) : Ev prog w A h (call (.type "list") [v]) (Is (.zs ((List.range n).map fun (i : Nat) => (i : Int)))) := by
  obtain ⟨r, t, u, x, rfl, hr⟩ := p
  have e0 : ((n : Int) - 0).toNat = n := by omega
  refine Ev.of fun s Q e q => call_list_range hh (e.l.range hr) (up_small (by omega) (by omega) (by omega) (by omega)) (by rw [rangeSize_nat, e0]) (by omega) fun h' tk acc' c' hk hS hacc => ?_
  refine q _ h' tk hk ⟨_, acc'.toList, rfl, ⟨_, hS, rfl, c', rfl⟩, ?_⟩
  obtain ⟨h1, h2⟩ := hacc
  have go : ∀ (l : List Value) (n : Nat), l.length = n → (∀ (j : Nat) (v : Value), l[j]? = some v → ∃ t, v = Value.int (0 + (j : Int) * 1) t) → IntsAre l ((List.range n).map fun (i : Nat) => (i : Int)) := by
    intro l n hl hv
    have e1 : l.map PyProof.Rows.numOf = (List.range n).map fun (i : Nat) => (i : Int) := by
      refine List.ext_getElem (by simp [hl]) fun j h1 h2 => ?_
      have hj : j < l.length := by simpa using h1
      obtain ⟨t, ht⟩ := hv j l[j] (List.getElem?_eq_getElem hj)
      simp only [List.getElem_map, List.getElem_range]
      rw [ht]
      show 0 + (j : Int) * 1 = j
      omega
    rw [← e1]
    refine intsAre_map l fun v hv' => ?_
    obtain ⟨j, hj, rfl⟩ := List.getElem_of_mem hv'
    obtain ⟨t, ht⟩ := hv j l[j] (List.getElem?_eq_getElem hj)
    exact ⟨_, t, ht⟩
  exact go acc'.toList n (by simpa using h1) fun j v hv => h2 j v (by simpa using hv)
end

def cutOut (ns : List Int) : List Int := (ns.drop (min 1 ns.length)).take (min 25 ns.length - min 1 ns.length)
theorem cutOut_length (ns : List Int) : (cutOut ns).length ≤ 24 := by unfold cutOut; rw [List.length_take]; omega
theorem cutOut_pick {ns : List Int} (vs : List Value) (hi : IntsAre vs ns) : ∃ us : List Value, slicePick vs.toArray (some ((1 : Nat) : Int)) (some ((25 : Nat) : Int)) none = us.toArray ∧ IntsAre us (cutOut ns) := by
  refine ⟨(vs.drop (min 1 ns.length)).take (min 25 ns.length - min 1 ns.length), ?_, ints_take (ints_drop hi _) _⟩
  rw [slicePick_plain]
  simp only [Option.elim, clipAt_nat, List.size_toArray, hi.length]
end Mine
end

section -- WkL
open PySem PySem.W PyProof.Rows PySem.Calls
set_option Elab.async false
set_option maxRecDepth 100000
set_option maxHeartbeats 4000000
set_option linter.unusedVariables false
namespace Mine
local macro_rules | `(tactic| walk_at "ev") => `(tactic| first
  | exact ev_int
  | exact ev_none
  | exact ev_name (by assumption) rfl rfl rfl
  | (apply ev_add <;> first | (with_unfolding_all rfl) | walk_at "ev")
  | (apply ev_sub <;> first | (with_unfolding_all rfl) | walk_at "ev"))

def fstOf : List Int → Nat
  | [] => 11
  | x :: _ => x.natAbs
def giOf (ns : List Int) : Nat := fstOf ns % 6
def kOf (ns : List Int) : Nat := 2 + fstOf ns / 6 % 3
def numsOf (ns : List Int) : List Int := cutOut ns ++ [0, 1]
def widthOf (ns : List Int) : Nat := if fstOf ns % 2 = 0 then whole (giOf ns) (kOf ns) else min (whole (giOf ns) (kOf ns)) ((numsOf ns).length + 2)
def modsOf (ns : List Int) : List Int := (List.range (numsOf ns).length).map fun j => (((numsOf ns).getD j 0).natAbs : Int).fmod (widthOf ns)
def ordOf (ns : List Int) : List Int := zSort (modsOf ns)
def ranksOf (ns : List Int) : List Int := zApart (ordOf ns)

theorem gi_lt (ns : List Int) : giOf ns < 6 := Nat.mod_lt _ (by decide)
theorem k_ge (ns : List Int) : 2 ≤ kOf ns := by unfold kOf; omega
theorem k_le (ns : List Int) : kOf ns ≤ 4 := by unfold kOf; omega
theorem nums_len (ns : List Int) : 2 ≤ (numsOf ns).length ∧ (numsOf ns).length ≤ 26 := by
  have := cutOut_length ns
  unfold numsOf
  rw [List.length_append]
  simp only [List.length_cons, List.length_nil]
  omega
theorem width_ok (ns : List Int) : 1 ≤ widthOf ns ∧ widthOf ns ≤ whole (giOf ns) (kOf ns) := by
  have := whole_pos (gi_lt ns) (k_ge ns) (k_le ns)
  have := nums_len ns
  unfold widthOf
  split <;> omega
theorem ord_len (ns : List Int) : (ordOf ns).length = (numsOf ns).length := by
  unfold ordOf
  rw [(zSort_perm _).length_eq]
  unfold modsOf
  simp
theorem ord_mem {ns : List Int} {x : Int} (hx : x ∈ ordOf ns) : 0 ≤ x ∧ x < (whole (giOf ns) (kOf ns) : Int) := by
  have hx := (zSort_perm _).mem_iff.mp hx
  obtain ⟨j, _, rfl⟩ := List.mem_map.mp hx
  have := width_ok ns
  rw [Int.fmod_eq_emod_of_nonneg _ (by omega)]
  have h1 := Int.emod_nonneg (((numsOf ns).getD j 0).natAbs : Int) (b := (widthOf ns : Int)) (by omega)
  have h2 := Int.emod_lt_of_pos (((numsOf ns).getD j 0).natAbs : Int) (b := (widthOf ns : Int)) (by omega)
  omega
/-- the ranks as natural numbers -/
def rsOf (ns : List Int) : List Nat := (ranksOf ns).map Int.toNat
theorem rs_back (ns : List Int) : ranksOf ns = (rsOf ns).map fun (r : Nat) => (r : Int) := by
  unfold rsOf
  rw [List.map_map]
  refine (List.map_id _).symm.trans (List.map_congr_left fun x hx => ?_)
  have := (ord_mem (zApart_mem hx)).1
  show x = ((x.toNat : Nat) : Int)
  omega
theorem rs_low {ns : List Int} : ∀ r ∈ rsOf ns, r < whole (giOf ns) (kOf ns) := fun r hr => by
  obtain ⟨x, hx, rfl⟩ := List.mem_map.mp hr
  have := ord_mem (zApart_mem hx)
  omega
theorem rs_len (ns : List Int) : 1 ≤ (rsOf ns).length ∧ (rsOf ns).length ≤ 26 := by
  unfold rsOf
  rw [List.length_map]
  have h1 := zApart_length (ordOf ns)
  have h2 := zApart_pos (l := ordOf ns) (by rw [ord_len]; have := nums_len ns; omega)
  rw [ord_len] at h1
  have := nums_len ns
  unfold ranksOf
  omega
theorem rs_nodup (ns : List Int) : (rsOf ns).Nodup := by
  unfold rsOf
  rw [List.Nodup, List.pairwise_map]
  refine List.Pairwise.imp_of_mem ?_ (zApart_rise (zSort_sorted (modsOf ns)))
  intro x y hx hy h e
  have := (ord_mem (ns := ns) (zApart_mem hx)).1
  have := (ord_mem (ns := ns) (zApart_mem hy)).1
  omega
theorem rs_whole (ns : List Int) : (rsOf ns).length ≤ whole (giOf ns) (kOf ns) := by
  have := nodup_le (m := List.range (whole (giOf ns) (kOf ns))) (rs_nodup ns) fun r hr => List.mem_range.mpr (rs_low r hr)
  rwa [List.length_range] at this

section
variable {prog : Program} {w : World} {A : Around} {a : Ad} {b : Heap} {s : Shared} {L : Addr} {q : Str} {fo : Option Addr} {cd : Value} {ns : List Int}
theorem ev_listZ2 {h : Heap} {env : Env} {e1 e2 : PySem.Expr} {pos : Pos} {x y : Int} (hx : Ev prog w A h (eval e1 env) (Is (.int x))) (hy : Ev prog w A h (eval e2 env) (Is (.int y)))
    (ht : backTo pos (starEach [e1, e2] env) = [(false, eval e1 env), (false, eval e2 env)] := by rfl) : Ev prog w A h (eval (.List [e1, e2] pos) env) (Is (.zs [x, y])) :=
  ev_listZ [x, y] ht (args_cons hx (args_cons hy args_nil)) (by simp)
abbrev EW (L : Addr) (q : Str) (fo : Option Addr) (cd : Value) : Env := EnvF (dScope (defAt 8)) L (cellsFrom (L + 1) (dScope (defAt 8)).names []) q fo cd
abbrev rW (ns : List Int) (a : Ad) : Rho := [("script", .zs ns), ("abs", .val (.builtin "abs")), ("_law_pascal", .val (.ref a.P)), ("list", .val (.type "list")), ("min", .val (.builtin "min")), ("len", .val (.builtin "len")), ("sorted", .val (.builtin "sorted")), ("range", .val (.type "range")),
  ("_law_things", .val (.ref a.T)), ("_law_number", .val (.ref a.N)), ("_law_bound", .val (.ref a.O)), ("_law_shadow", .val (.ref a.S))]
abbrev rW9 (ns : List Int) (a : Ad) : Rho := ("ranks", .zs (ranksOf ns)) :: ("ordered", .zs (ordOf ns)) :: ("width", .int (widthOf ns)) :: ("numbers", .zs (numsOf ns)) :: ("whole", .int (whole (giOf ns) (kOf ns))) :: ("rows", .zss (pascal (giOf ns + 7))) :: ("k", .int (kOf ns)) :: ("ground", .int ((giOf ns + 4 : Nat) : Int)) :: ("first", .int (fstOf ns)) :: rW ns a

/-- the law's end -/
abbrev LawEnd (b : Heap) (L : Addr) (s : Shared) (fl : Flow) (s' : Shared) : Prop := ∃ h' tk, fl = .ret (.bool true) ∧ s' = { s with heap := h', toks := tk } ∧ Ext b h' ∧ ∃ m, h'.Ns L m

theorem walk_law1 {E : Value → Shared → Prop} (W : Wd a b) (R : Room 2 A) (F : Fm b (EW L q fo cd) [] s.heap) (V : Vars (EW L q fo cd) s.heap (rW ns a)) (hns : ns.length ≤ 63)
    (k : ∀ h' tk, Fm b (EW L q fo cd) [] h' → Vars (EW L q fo cd) h' (rW9 ns a) → wpAny (model prog w) A (execs ((dBody (defAt 8)).drop 9) (EW L q fo cd)) (LawEnd b L s) E { s with heap := h', toks := tk }) :
    wpAny (model prog w) A (execs (dBody (defAt 8)) (EW L q fo cd)) (LawEnd b L s) E s := by
  have hgi := gi_lt ns; have hk2 := k_ge ns; have hk4 := k_le ns
  have hw := width_ok ns; have hwl := whole_le hgi hk2 hk4
  have hnl := nums_len ns; have hol := ord_len ns
  -- first
  refine st_assign (d := .int (fstOf ns)) F V (.inl rfl) (ev_ifexp (β := !ns.isEmpty) (te_truthy (by walk_at "ev") (by omega) rfl) (fun hne => ?first1) (fun he => ?first2)) rfl fun h₁ t₁ F₁ V₁ l₁ c₁ => ?_
  case first1 =>
    have hpos : 0 < ns.length := by cases ns with
      | nil => cases hne
      | cons x t => simp
    refine ev_eq (ev_call1 (d1 := .int (ns.getD 0 0)) (by walk_at "ev") (.builtin _) (ev_item (k := 0) (by walk_at "ev") (by walk_at "ev") (by omega) (by omega) (by omega)) (fun h' v e i => ev_abs i)) ?_
    cases ns with
    | nil => cases hne
    | cons x t => rfl
  case first2 =>
    have : ns = [] := by cases ns with
      | nil => rfl
      | cons x t => cases he
    subst this
    exact ev_int
  -- ground
  refine st_assign (s := { s with heap := h₁, toks := t₁ }) (d := .int ((giOf ns + 4 : Nat) : Int)) F₁ V₁ (.inl rfl) (ev_eq (ev_add (a := 4) (b := (fstOf ns : Int).fmod 6) (by walk_at "ev") (ev_mod (by walk_at "ev") (by walk_at "ev") (by decide))) (congrArg D.int (by
    rw [Int.fmod_eq_emod_of_nonneg _ (by decide)]; unfold giOf; omega))) rfl fun h₂ t₂ F₂ V₂ l₂ c₂ => ?_
  -- k
  refine st_assign (s := { s with heap := h₂, toks := t₂ }) (d := .int (kOf ns)) F₂ V₂ (.inr ⟨rfl, _, rfl⟩) (ev_eq (ev_add (a := 2) (b := ((fstOf ns : Int).fdiv 6).fmod 3) (by walk_at "ev") (ev_mod (ev_div (by walk_at "ev") (by walk_at "ev") (by decide) (PyProof.noPylong_small (by decide))) (by walk_at "ev") (by decide))) (congrArg D.int (by
    rw [Int.fmod_eq_emod_of_nonneg _ (by decide), Int.fdiv_eq_ediv_of_nonneg _ (by decide)]; unfold kOf; omega))) rfl fun h₃ t₃ F₃ V₃ l₃ c₃ => ?_
  -- rows
  refine st_assign (s := { s with heap := h₃, toks := t₃ }) (d := .zss (pascal (giOf ns + 7))) F₃ V₃ (.inr ⟨rfl, _, rfl⟩) (ev_call1 (d1 := .int ((giOf ns + 7 : Nat) : Int)) (by walk_at "ev") (W.up F₃.keep).fP.callee (ev_eq (ev_add (a := ((giOf ns + 4 : Nat) : Int)) (b := 3) (by walk_at "ev") (by walk_at "ev")) (congrArg D.int (by omega)))
    (fun h' v e i => ev_pascal (W.up (F₃.keep.trans e)) R i (by omega) (by omega))) rfl fun h₄ t₄ F₄ V₄ l₄ c₄ => ?_
  -- whole
  refine st_assign (s := { s with heap := h₄, toks := t₄ }) (d := .int (whole (giOf ns) (kOf ns))) F₄ V₄ (.inl rfl) (ev_eq (ev_item (ns := (pascal (giOf ns + 7)).getD (kOf ns) []) (k := ((giOf ns + 4 : Nat) : Int)) (ev_eq (ev_itemL (k := ((kOf ns : Nat) : Int)) (by walk_at "ev") (by walk_at "ev") (by omega) (by rw [pascal_length]; omega) (by rw [pascal_length]; omega)) (by rw [Int.toNat_natCast])) (by walk_at "ev")
    (by omega) (by rw [pascal_get (by omega)]; omega) (by rw [pascal_get (by omega)]; omega)) (congrArg D.int (by rw [Int.toNat_natCast]; exact whole_eq hgi hk2 hk4))) rfl fun h₅ t₅ F₅ V₅ l₅ c₅ => ?_
  -- numbers
  have hcl := cutOut_length ns
  refine st_assign (s := { s with heap := h₅, toks := t₅ }) (d := .zs (numsOf ns)) F₅ V₅ (.inl rfl) (ev_catZ (a := cutOut ns) (b := [0, 1]) (ev_call1 (d1 := .zs (cutOut ns)) (by walk_at "ev") (.type _)
    (ev_slice (ns := ns) (lo := some ((1 : Nat) : Int)) (hi := some ((25 : Nat) : Int)) (by walk_at "ev") (.some ev_int) (.some ev_int) (by omega) (fun vs hi => cutOut_pick vs hi)) (fun h' v e i => ev_listL i (by omega)))
    (ev_listZ2 ev_int ev_int) (by show _ + 2 ≤ _; omega)) rfl fun h₆ t₆ F₆ V₆ l₆ c₆ => ?_
  -- width
  refine st_assign (s := { s with heap := h₆, toks := t₆ }) (d := .int (widthOf ns)) F₆ V₆ (.inr ⟨rfl, _, rfl⟩) (ev_ifexp (β := (fstOf ns : Int).fmod 2 == 0) (te_eqI (ev_mod (by walk_at "ev") (by walk_at "ev") (by decide)) (by walk_at "ev")) (fun hz => ?width1) (fun hz => ?width2)) rfl fun h₇ t₇ F₇ V₇ l₇ c₇ => ?_
  case width1 =>
    rw [Int.fmod_eq_emod_of_nonneg _ (by decide)] at hz
    have hz : (fstOf ns : Int) % 2 = 0 := by simpa using hz
    refine ev_eq (a := .int (whole (giOf ns) (kOf ns))) (by walk_at "ev") (congrArg D.int ?_)
    unfold widthOf
    rw [if_pos (by omega)]
  case width2 =>
    rw [Int.fmod_eq_emod_of_nonneg _ (by decide)] at hz
    have hz : ¬ (fstOf ns : Int) % 2 = 0 := by simpa using hz
    refine ev_eq (ev_call2 (d1 := .int (whole (giOf ns) (kOf ns))) (d2 := .int ((numsOf ns).length + 2)) (d := .int (min (whole (giOf ns) (kOf ns) : Int) ((numsOf ns).length + 2))) (by walk_at "ev") (.builtin _) (by walk_at "ev") (ev_add (ev_len1 (by walk_at "ev") (by walk_at "ev") (by omega)) (by walk_at "ev")) (fun h' v u e i j => ev_min i j R.hand)) (congrArg D.int ?_)
    unfold widthOf
    rw [if_neg (by omega)]
    omega
  -- ordered
  obtain ⟨vw, rw_, iw⟩ := V₇.2 "width" _ rfl
  refine st_assign (s := { s with heap := h₇, toks := t₇ }) (d := .zs (ordOf ns)) F₇ V₇ (.inr ⟨rfl, _, rfl⟩) (ev_call1 (d1 := .zs (modsOf ns)) (by walk_at "ev") (.builtin _)
    ((ev_comp1 (d := .zs (numsOf ns)) (n := (numsOf ns).length) (items := fun j => .int ((numsOf ns).getD j 0)) (fun j => .int ((((numsOf ns).getD j 0).natAbs : Int).fmod (widthOf ns))) (fun _ => true) R.hand (by walk_at "ev") (.zs (numsOf ns)) (by omega) (fun _ _ => trivial) rfl (by decide +kernel) rfl (by decide +kernel) rfl ?body8).mono fun v h' e x => by
      have := picked_zs x
      rwa [List.filter_eq_self.mpr (by simp)] at this)
    (fun h' v e i => ev_sortedZ i (by unfold modsOf; rw [List.length_map, List.length_range]; omega))) rfl fun h₈ t₈ F₈ V₈ l₈ c₈ => ?_
  case body8 =>
    intro C j v H m hj e hm hx hv
    refine ⟨tests_nil, fun _ => EvF.ofInt ?_⟩
    refine with_vars (Named.vars' (.cons (x := "x") (.inl ⟨rfl, m, hm, hx⟩) hv (.cons (x := "width") (res_comp rw_ e rfl rfl rfl) (iw.l e.l) (.val ((W.up (F₇.keep.trans e)).res rfl rfl .abs rfl) .nil))) rfl) fun VC => ?_
    exact ev_mod (ev_call1 (d1 := .int ((numsOf ns).getD j 0)) (by walk_at "ev") (.builtin _) (by walk_at "ev") (fun h' v e i => ev_abs i)) (by walk_at "ev") (by omega)
  -- ranks
  obtain ⟨vo, ro, io⟩ := V₈.2 "ordered" _ rfl
  have hn : (((ordOf ns).length : Int) - 0).toNat = (ordOf ns).length := by omega
  refine st_assignComp (s := { s with heap := h₈, toks := t₈ }) (d := .range 0 (ordOf ns).length 1) (dOut := .zs (ranksOf ns)) (n := (ordOf ns).length) (items := fun j => .int (0 + (j : Int) * 1)) (fun j => .int ((ordOf ns).getD j 0)) (fun j => (j == 0 || ((ordOf ns).getD (j - 1) 0 != (ordOf ns).getD j 0))) R.hand F₈ V₈ (.inl rfl)
    (ev_call1 (d1 := .int (ordOf ns).length) (by walk_at "ev") (.type _) (ev_len1 (by walk_at "ev") (by walk_at "ev") (by omega)) (fun h' v e i => ev_range1 i)) (hn ▸ src_up (by decide) (by decide) (by omega) (by omega)) (by omega) (fun _ _ => trivial) rfl (by decide +kernel) rfl (by decide +kernel) rfl
    (fun v H x => picked_zs x) ?body9 rfl fun h₉ t₉ F₉ V₉ l₉ c₉ => ?_
  case body9 =>
    intro C j v H m hj e hm hx hv
    have hj0 : (0 + (j : Int) * 1) = (j : Nat) := by omega
    rw [hj0] at hv
    refine ⟨tests_one ?_, fun _ => (EvF.ofInt ?_).g⟩
    · refine with_varsT (Named.vars' (.cons (x := "p") (d := .int (j : Nat)) (.inl ⟨rfl, m, hm, hx⟩) hv (.cons (x := "ordered") (res_comp ro e rfl rfl rfl) (io.l e.l) .nil)) rfl) fun VC => ?_
      refine te_eq (te_or_cons (a := ((j : Nat) : Int) == 0) (b := ((ordOf ns).getD (j - 1) 0 != (ordOf ns).getD j 0) || false) (te_eqI (by walk_at "ev") (by walk_at "ev")) fun hz => te_or_cons (te_neI ?_ ?_) fun _ => te_or_nil) ?_
      · have hz' : j ≠ 0 := by simpa using hz
        exact ev_eq (ev_item (k := ((j - 1 : Nat) : Int)) (by walk_at "ev") (ev_eq (ev_sub (a := (j : Nat)) (b := 1) (by walk_at "ev") (by walk_at "ev")) (by congr 1; omega)) (by omega) (by omega) (by omega)) (by rw [Int.toNat_natCast])
      · exact ev_eq (ev_item (k := ((j : Nat) : Int)) (by walk_at "ev") (by walk_at "ev") (by omega) (by omega) (by omega)) (by rw [Int.toNat_natCast])
      · rw [Bool.or_false]
        congr 1
        by_cases h : j = 0
        · subst h; rfl
        · rw [beq_eq_false_iff_ne.mpr h, beq_eq_false_iff_ne.mpr (by omega)]
    · refine with_vars (Named.vars' (.cons (x := "p") (d := .int (j : Nat)) (.inl ⟨rfl, m, hm, hx⟩) hv (.cons (x := "ordered") (res_comp ro e rfl rfl rfl) (io.l e.l) .nil)) rfl) fun VC => ?_
      exact ev_eq (ev_item (k := ((j : Nat) : Int)) (by walk_at "ev") (by walk_at "ev") (by omega) (by omega) (by omega)) (by rw [Int.toNat_natCast])
  exact k h₉ t₉ F₉ V₉
end
end Mine
end

section -- WkL2
open PySem PySem.W PyProof.Rows PySem.Calls
set_option Elab.async false
set_option maxRecDepth 100000
set_option maxHeartbeats 4000000
set_option linter.unusedVariables false
namespace Mine
local macro_rules | `(tactic| walk_at "ev") => `(tactic| first
  | exact ev_int
  | exact ev_none
  | exact ev_name (by assumption) rfl rfl rfl
  | (apply ev_add <;> first | (with_unfolding_all rfl) | walk_at "ev")
  | (apply ev_sub <;> first | (with_unfolding_all rfl) | walk_at "ev"))
local macro_rules | `(tactic| walk_at "sub") => `(tactic| repeat' (first | exact List.forall_mem_nil _ | refine List.forall_mem_cons.mpr ⟨rfl, ?_⟩))

def setsOf (ns : List Int) : List (List Int) := (rsOf ns).map fun (r : Nat) => things R12 (kOf ns) (r : Int)
theorem rank_get (ns : List Int) (j : Nat) : (ranksOf ns).getD j 0 = (((rsOf ns).getD j 0 : Nat) : Int) := by
  rw [rs_back ns, List.getD, List.getElem?_map, List.getD]
  cases (rsOf ns)[j]? <;> rfl
theorem rank_len (ns : List Int) : (ranksOf ns).length = (rsOf ns).length := by rw [rs_back ns, List.length_map]
theorem range_map {α β : Type} (l : List α) (d : α) (g : α → β) : ((List.range l.length).map fun j => g (l.getD j d)) = l.map g := by
  refine List.ext_getElem (by simp) fun j h1 h2 => ?_
  have hj : j < l.length := by simpa using h1
  simp [List.getD, hj]
theorem sets_eq (ns : List Int) : ((List.range (ranksOf ns).length).map fun t => things R12 (kOf ns) ((ranksOf ns).getD t 0)) = setsOf ns := by
  rw [range_map (ranksOf ns) 0 (things R12 (kOf ns))]
  conv => lhs; rw [rs_back ns]
  rw [List.map_map]; rfl
theorem shadow_short {sets : List (List Int)} {k : Nat} (o : SetsOk sets k) : (shadow sets).length ≤ 104 := by
  have h1 : (shadow sets).length ≤ (isort (lostOf sets)).length := by
    unfold shadow apart
    rw [List.length_map]
    exact Nat.le_trans (List.length_filter_le _ _) (by simp)
  rw [(isort_perm _).length_eq] at h1
  exact Nat.le_trans h1 (lost_short o)
theorem evF_eq {prog : Program} {w : World} {A : Around} {h : Heap} {t : Sem Value} {a c : D} (x : EvF prog w A h t a) (q : a = c) : EvF prog w A h t c := q ▸ x
theorem none_kept {n : Nat} {p : Nat → Bool} {g : Nat → Int} (h : ∀ j, j < n → p j = false) : ((List.range n).filter p).map g = [] := by
  have : (List.range n).filter p = [] := List.filter_eq_nil_iff.mpr fun j hj => by rw [h j (List.mem_range.mp hj)]; simp
  rw [this]; rfl

section
variable {prog : Program} {w : World} {A : Around} {a : Ad} {b : Heap} {s : Shared} {L : Addr} {q : Str} {fo : Option Addr} {cd : Value} {ns : List Int}
theorem tidyW : Tidy (EW L q fo cd) := by
  intro n c h
  change (n, c) ∈ [(_, _), (_, _), (_, _), (_, _), (_, _), (_, _)] at h
  simp only [List.mem_cons, Prod.mk.injEq, List.not_mem_nil, or_false] at h
  rcases h with ⟨rfl, rfl⟩ | ⟨rfl, rfl⟩ | ⟨rfl, rfl⟩ | ⟨rfl, rfl⟩ | ⟨rfl, rfl⟩ | ⟨rfl, rfl⟩
  all_goals rfl

theorem walk_law2 {E : Value → Shared → Prop} (W : Wd a b) (R : Room 2 A) (F : Fm b (EW L q fo cd) [] s.heap) (V : Vars (EW L q fo cd) s.heap (rW9 ns a))
    (rest : ∀ p b' h' tk, Ext b b' → Fm b' (EW L q fo cd) [p] h' → VarsB (EW L q fo cd) b' h' (("sets", .val (.ref p)) :: rW9 ns a) → Is (.zss (setsOf ns)) (.ref p) h' → wpAny (model prog w) A (execs ((dBody (defAt 8)).drop 11) (EW L q fo cd)) (LawEnd b L s) E { s with heap := h', toks := tk }) :
    wpAny (model prog w) A (execs ((dBody (defAt 8)).drop 9) (EW L q fo cd)) (LawEnd b L s) E s := by
  have hgi := gi_lt ns; have hk2 := k_ge ns; have hk4 := k_le ns
  have hu : A.units + 64 < cLine := by have := R.units; omega
  have hrl := rank_len ns; have hrs := rs_len ns
  obtain ⟨F', eb, lb⟩ := F.rebase tidyW
  have V' : VarsB (EW L q fo cd) _ s.heap (rW9 ns a) := VarsB.base (b := s.heap) V.2 lb
  have W' := W.up eb
  generalize hideAll s.heap (homeOf (EW L q fo cd)) = b' at F' eb lb V' W'
  refine st_newlist (ds := []) F' V' (.inl rfl) rfl args_nil (by simp) rfl fun p vs h₀ h₁ t₁ k₀ hp0 hp hall l₀ F₁ V₁ l₁ c₁ => ?_
  cases hall
  have hbp : b'.get? p = none := F₁.off p (.inr (.inr (.head _)))
  refine st_for (s := { s with heap := h₁, toks := t₁ }) (d := .zs (ranksOf ns)) (n := (ranksOf ns).length) (items := fun j => .int ((ranksOf ns).getD j 0)) (fun j => ("sets", .val (.ref p)) :: rW9 ns a)
    (fun j h => ∃ ys, h.PlainList p ys ∧ Items h p ((List.range j).map fun t => .zs (things R12 (kOf ns) ((ranksOf ns).getD t 0))) ys ∧ ys.size = j)
    R.hand F₁ V₁ ⟨#[], hp, Items.nil, rfl⟩ (fun i h h' ⟨ys, x, y, z⟩ e => ⟨ys, e.plain x, y.l e, z⟩) (.inl rfl) (fun i hi => trivial) (.zs (ranksOf ns)) ?src ?turn ?done
  case src =>
    obtain ⟨vr, rr, ir⟩ := V₁ "ranks" _ rfl
    refine (ev_res F₁.kind rr rfl rfl).mono fun v h' e ev => ?_
    subst ev
    refine ⟨ir.l (F₁.keep.trans e).l, fun x hx ex => ?_⟩
    rw [List.mem_singleton.mp hx] at ex
    obtain ⟨y, us, ey, ⟨o, ho, _⟩, _⟩ := ir
    rw [ex] at ey; cases ey
    rw [hbp] at ho; cases ho
  case turn =>
    rintro j h tk E' hj F V ⟨ys, hpl, its, hsz⟩
    have hjr : (rsOf ns).getD j 0 ∈ rsOf ns := by
      rw [List.getD, List.getElem?_eq_getElem (show j < (rsOf ns).length by omega)]; exact List.getElem_mem _
    have T := thing_ok hgi hk2 hk4 (rs_low _ hjr)
    have hr := rank_get ns j
    rw [hr] at V
    generalize hrr : (rsOf ns).getD j 0 = r at T hr V
    have htl : (things R12 (kOf ns) (r : Int)).length = kOf ns := things_length _ _ _
    have V0 := V.vars F
    refine st_assignF (s := { s with heap := h, toks := tk }) (d := .zs (things R12 (kOf ns) (r : Int))) F V (.inr ⟨rfl, _, rfl⟩) (evF_eq (evF_call3 (d := .zs (things (pascal (giOf ns + 7)) (kOf ns) (r : Int))) (d1 := .zss (pascal (giOf ns + 7))) (d2 := .int (kOf ns)) (d3 := .int (r : Int)) (by walk_at "ev") (W'.up F.keep).fT.callee (by walk_at "ev") (by walk_at "ev") (by walk_at "ev")
      (fun h' v u t e i j l => evF_things (W'.up (F.keep.trans e)) R i j l (by rw [pascal_length]; omega) (by omega) (by rw [pascal_length]; omega) (fun r hr => by rw [pascal_row r hr]; omega) T.ok)) (congrArg D.zs T.eq)) rfl fun v h₂ t₂ F₂ V₂ iv nv l₂ c₂ => ?_
    have V2 := (V₂.vars F₂).cast (x := "one") rfl iv
    have hnum := num_ok hgi hk2 hk4 (p := things R12 (kOf ns) (r : Int)) (by omega) T.low
    have get : ∀ x, x < kOf ns → 0 ≤ (things R12 (kOf ns) (r : Int)).getD x 0 ∧ (things R12 (kOf ns) (r : Int)).getD x 0 < ((giOf ns + 4 : Nat) : Int) := fun x hx => by
      rw [List.getD, List.getElem?_eq_getElem (by omega)]; exact T.low _ (List.getElem_mem _)
    have q1 : (number (pascal (giOf ns + 7)) (things R12 (kOf ns) (r : Int)) != (r : Int)) = false := by rw [T.back]; simp
    have q2 : (((things R12 (kOf ns) (r : Int)).length : Int) != (kOf ns : Int)) = false := by rw [htl]; simp
    have q3 : decide (((giOf ns + 4 : Nat) : Int) ≤ (things R12 (kOf ns) (r : Int)).getD 0 0) = false := decide_eq_false (by have := get 0 (by omega); omega)
    have q4 : decide ((things R12 (kOf ns) (r : Int)).getD (-1 + ((things R12 (kOf ns) (r : Int)).length : Int)).toNat 0 < 0) = false := decide_eq_false (by have := get (-1 + ((things R12 (kOf ns) (r : Int)).length : Int)).toNat (by omega); omega)
    have fall : ∀ x, x + 1 < kOf ns → (things R12 (kOf ns) (r : Int)).getD (x + 1) 0 < (things R12 (kOf ns) (r : Int)).getD x 0 := fun x hx => by
      rw [List.getD, List.getD, List.getElem?_eq_getElem (by omega), List.getElem?_eq_getElem (by omega)]
      exact List.pairwise_iff_getElem.mp T.fall x (x + 1) (by omega) (by omega) (by omega)
    refine st_if (s := { s with heap := h₂, toks := t₂ }) (β := false) (te_eq (te_or_cons (a := (number (pascal (giOf ns + 7)) (things R12 (kOf ns) (r : Int)) != (r : Int))) (b := (((things R12 (kOf ns) (r : Int)).length : Int) != (kOf ns : Int)) || (decide (((giOf ns + 4 : Nat) : Int) ≤ (things R12 (kOf ns) (r : Int)).getD 0 0) || (decide ((things R12 (kOf ns) (r : Int)).getD (-1 + ((things R12 (kOf ns) (r : Int)).length : Int)).toNat 0 < 0) || false)))
      (te_neI ?t1 (by walk_at "ev")) fun _ => te_or_cons (te_neI (ev_len1 (by walk_at "ev") (by walk_at "ev") (by omega)) (by walk_at "ev")) fun _ => te_or_cons (te_ge ?t3 (by walk_at "ev")) fun _ => te_or_cons (te_lt ?t4 (by walk_at "ev")) fun _ => te_or_nil) (by rw [q1, q2, q3, q4]; rfl)) (fun z => nomatch z) fun _ h₃ t₃ k₃ => wpAny_execs_nil ?_
    case t1 =>
      exact ev_call2 (d1 := .zss (pascal (giOf ns + 7))) (d2 := .zs (things R12 (kOf ns) (r : Int))) (by walk_at "ev") (W'.up F₂.keep).fN.callee (by walk_at "ev") (by walk_at "ev")
        (fun h' v u e i j => ev_number (W'.up (F₂.keep.trans e)) R i j (by rw [pascal_length]; omega) (by omega) (by rw [pascal_length]; omega) (fun r hr => by rw [pascal_row r hr]; omega) hnum)
    case t3 =>
      exact ev_item (k := 0) (by walk_at "ev") (by walk_at "ev") (by omega) (by omega) (by omega)
    case t4 =>
      exact ev_itemNeg (k := -1) (by walk_at "ev") (ev_neg (by walk_at "ev")) (by omega) (by omega) (by omega)
    dsimp only
    have F₃ := F₂.up k₃; have V₃ := V₂.up k₃; have iv₃ := iv.l k₃.l
    have V3 := (V₃.vars F₃).cast (x := "one") rfl iv₃
    obtain ⟨vo, ro, io⟩ := V3.2 "one" _ rfl
    have hkn : ((kOf ns : Int) - 1).toNat = kOf ns - 1 := by omega
    refine st_if (s := { s with heap := h₃, toks := t₃ }) (β := false) (te_eq (te_neZ (as := []) (bs := []) hu ((ev_comp1 (d := .range 1 (kOf ns) 1) (n := kOf ns - 1) (items := fun j => .int (1 + (j : Int) * 1)) (fun j => .int (1 + (j : Int) * 1)) (fun j => decide ((things R12 (kOf ns) (r : Int)).getD j 0 ≤ (things R12 (kOf ns) (r : Int)).getD (j + 1) 0)) R.hand
      (ev_call2 (d1 := .int 1) (d2 := .int (kOf ns)) (by walk_at "ev") (.type _) (by walk_at "ev") (by walk_at "ev") (fun h' v u e i j => ev_range2 i j)) (hkn ▸ src_up (by decide) (by decide) (by omega) (by omega)) (by omega) (fun _ _ => trivial) rfl (by decide +kernel) rfl (by decide +kernel) rfl ?body1).mono fun v h' e x => by
        have := picked_zs x
        rwa [none_kept (fun j hj => decide_eq_false (by have := fall j (by omega); omega))] at this) (ev_listZ [] rfl args_nil (by decide))) rfl) (fun z => nomatch z) fun _ h₄ t₄ k₄ => wpAny_execs_nil ?_
    case body1 =>
      intro C x v' H m hx0 e hm hx hv
      have hj1 : (1 + (x : Int) * 1) = ((x + 1 : Nat) : Int) := by omega
      rw [hj1] at hv ⊢
      refine ⟨tests_one ?_, fun _ => EvF.ofInt ?_⟩
      · refine with_varsT (Named.vars' (.cons (x := "p") (d := .int ((x + 1 : Nat) : Int)) (.inl ⟨rfl, m, hm, hx⟩) hv (.cons (x := "one") (res_comp ro e rfl rfl rfl) (io.l e.l) .nil)) rfl) fun VC => ?_
        refine te_le ?_ ?_
        · exact ev_eq (ev_item (k := ((x : Nat) : Int)) (by walk_at "ev") (ev_eq (ev_sub (a := ((x + 1 : Nat) : Int)) (b := 1) (by walk_at "ev") (by walk_at "ev")) (by congr 1; omega)) (by omega) (by omega) (by omega)) (by rw [Int.toNat_natCast])
        · exact ev_eq (ev_item (k := ((x + 1 : Nat) : Int)) (by walk_at "ev") (by walk_at "ev") (by omega) (by omega) (by omega)) (by rw [Int.toNat_natCast])
      · refine with_vars (Named.vars' (.cons (x := "p") (d := .int ((x + 1 : Nat) : Int)) (.inl ⟨rfl, m, hm, hx⟩) hv .nil) rfl) fun VC => ?_
        walk_at "ev"
    dsimp only
    have F₄ := F₃.up k₄; have V₄ := V₃.up k₄; have iv₄ := iv₃.l k₄.l
    have V4 := V₄.vars F₄
    have l₄ : LExt h h₄ := (l₂.trans k₃.l).trans k₄.l
    refine st_append (s := { s with heap := h₄, toks := t₄ }) (a := p) (ys := ys) (P := Is (.val v)) F₄ V₄ rfl (.head _) (l₄.plain hpl) (by omega) (by walk_at "ev") (fun v' h₅ h₆ t₆ k₅ (p₅ : v' = v) hs₆ hp₆ F₆ V₆ c₆ => wpAny_execs_nil ?_) rfl rfl rfl rfl rfl rfl rfl rfl
    subst p₅
    refine ⟨h₆, t₆, rfl, F₆, V₆.sub (by walk_at "sub"), ⟨ys.push v', hp₆, ?_, by rw [Array.size_push, hsz]⟩, c₂.trans (k₃.chg.trans (k₄.chg.trans c₆))⟩
    rw [List.range_succ, List.map_append]
    refine ((its.l l₄).l k₅.l).push hs₆ (d := .zs (things R12 (kOf ns) ((ranksOf ns).getD j 0))) (by rw [hr]; exact iv₄.l k₅.l) trivial fun e => ?_
    have := nv p e
    obtain ⟨n', ho⟩ := hpl
    rw [show ({ s with heap := h, toks := tk } : Shared).heap = h from rfl, ho] at this; cases this
  case done =>
    rintro h' tk F V ⟨ys, hpl, its, hsz⟩ c
    refine rest p b' h' tk eb F V ⟨p, ys.toList, rfl, by simpa using plain_isList hpl, paired_of_all ?_⟩
    have := its.all
    rw [← sets_eq, List.map_map]
    exact this
end
end Mine
end

section -- WkL3
open PySem PySem.W PyProof.Rows PySem.Calls
set_option Elab.async false
set_option maxRecDepth 100000
set_option maxHeartbeats 4000000
set_option linter.unusedVariables false
namespace Mine
local macro_rules | `(tactic| walk_at "ev") => `(tactic| first
  | exact ev_int
  | exact ev_none
  | exact ev_name (by assumption) rfl rfl rfl
  | (apply ev_add <;> first | (with_unfolding_all rfl) | walk_at "ev")
  | (apply ev_sub <;> first | (with_unfolding_all rfl) | walk_at "ev"))

section
variable {prog : Program} {w : World} {A : Around} {a : Ad} {b : Heap} {s : Shared} {L : Addr} {q : Str} {fo : Option Addr} {cd : Value} {ns : List Int}
theorem head_len (k m : Nat) : (headOf k m).length = m := by simp [headOf]
theorem head_get {k m j : Nat} (hj : j < m) : (headOf k m).getD j [] = things R12 k (j : Int) := by simp [headOf, List.getD, hj]
theorem walk_law3 {E : Value → Shared → Prop} {b' : Heap} {p : Addr} (s₀ : Shared) (hs₀ : ∃ h tk, s = { s₀ with heap := h, toks := tk }) (W : Wd a b) (R : Room 2 A) (eb : Ext b b') (F : Fm b' (EW L q fo cd) [p] s.heap) (V : VarsB (EW L q fo cd) b' s.heap (("sets", .val (.ref p)) :: rW9 ns a)) (hsets : Is (.zss (setsOf ns)) (.ref p) s.heap) :
    wpAny (model prog w) A (execs ((dBody (defAt 8)).drop 11) (EW L q fo cd)) (LawEnd b L s₀) E s := by
  have hgi := gi_lt ns; have hk2 := k_ge ns; have hk4 := k_le ns
  have hu : A.units + 64 < cLine := by have := R.units; omega
  have hrs := rs_len ns; have hrw := rs_whole ns
  have hwl := whole_le hgi hk2 hk4
  have V0 := (V.vars F).cast (x := "sets") rfl hsets
  obtain ⟨F', eb', lb⟩ := F.rebase tidyW
  have eb2 := eb.trans eb'
  have W' := W.up eb2
  clear F V hsets W eb'
  generalize hideAll s.heap (homeOf (EW L q fo cd)) = b2 at F' lb eb2 W'
  have hlen : (setsOf ns).length = (rsOf ns).length := by unfold setsOf; rw [List.length_map]
  have so : SetsOk (setsOf ns) (kOf ns) := sets_ok hgi hk2 hk4 hrs.2 rs_low
  have fam : Fam (giOf ns + 4) (kOf ns) (setsOf ns) := sets_fam hgi hk2 hk4 (rs_nodup ns) rs_low
  generalize hm : (rsOf ns).length = m at hlen hrs hrw
  obtain ⟨J, hJ, okb, eB, hpos⟩ := bound_ok hgi hk2 hk4 hrs.1 hrs.2 hrw
  have hkb := shadow_bound (F := setsOf ns) hk4 (by omega) fam
  rw [hlen] at hkb
  have hsh := shadow_short so
  have hkk : kk (kOf ns) m ≤ 104 := Nat.le_trans hkb hsh
  have headOk : SetsOk (headOf (kOf ns) m) (kOf ns) := sets_ok (rs := List.range m) hgi hk2 hk4 (by simp; omega) (fun r hr => by have := List.mem_range.mp hr; omega)
  have headLow : ∀ t ∈ headOf (kOf ns) m, ∀ x ∈ t, 0 ≤ x ∧ x < ((giOf ns + 4 : Nat) : Int) := fun t ht => by
    obtain ⟨r, hr, rfl⟩ := List.mem_map.mp ht
    exact (thing_ok hgi hk2 hk4 (by have := List.mem_range.mp hr; omega)).low
  -- m
  refine st_assign (d := .int (m : Int)) F' V0 (.inl rfl) (ev_eq (ev_lenL1 (by walk_at "ev") (by walk_at "ev") (by omega)) (by rw [hlen])) rfl fun h₁ t₁ F₁ V₁ l₁ c₁ => ?_
  -- bound
  refine st_assign (s := { s with heap := h₁, toks := t₁ }) (d := .int ((kk (kOf ns) m : Nat) : Int)) F₁ V₁ (.inl rfl) (ev_eq (ev_call3 (d := .int (bdB (pascal (giOf ns + 7)) (kOf ns) m J)) (d1 := .zss (pascal (giOf ns + 7))) (d2 := .int (kOf ns)) (d3 := .int (m : Int)) (by walk_at "ev") (W'.up F₁.keep).fO.callee (by walk_at "ev") (by walk_at "ev") (by walk_at "ev")
    (fun h' v u t e i j l => ev_bound (W'.up (F₁.keep.trans e)) R i j l (by rw [pascal_length]; omega) (by omega) (by rw [pascal_length]; omega) (fun r hr => by rw [pascal_row r hr]; omega) hJ okb)) (congrArg D.int eB)) rfl fun h₂ t₂ F₂ V₂ l₂ c₂ => ?_
  -- the shadow of the family
  refine st_if (s := { s with heap := h₂, toks := t₂ }) (β := false) (te_eq (te_or_cons (a := decide (((kk (kOf ns) m : Nat) : Int) < 1)) (b := decide (((shadow (setsOf ns)).length : Int) < ((kk (kOf ns) m : Nat) : Int)) || false) (te_lt (by walk_at "ev") (by walk_at "ev")) fun _ => te_or_cons (te_lt (ev_lenL1 (by walk_at "ev") ?sh (by omega)) (by walk_at "ev")) fun _ => te_or_nil) (by
      rw [decide_eq_false (by omega), decide_eq_false (by omega)]; rfl)) (fun z => nomatch z) fun _ h₃ t₃ k₃ => wpAny_execs_nil ?_
  case sh => exact ev_call1 (d1 := .zss (setsOf ns)) (by walk_at "ev") (W'.up F₂.keep).fS.callee (by walk_at "ev") (fun h' v e i => ev_shadow (W'.up (F₂.keep.trans e)) R i so)
  dsimp only
  have F₃ := F₂.up k₃; have V₃ := V₂.up k₃
  -- head
  obtain ⟨vk, rk, ik⟩ := V₃.2 "k" _ rfl
  obtain ⟨vr, rr, ir⟩ := V₃.2 "rows" _ rfl
  have hm0 : ((m : Int) - 0).toNat = m := by omega
  refine st_assign (s := { s with heap := h₃, toks := t₃ }) (d := .zss (headOf (kOf ns) m)) F₃ V₃ (.inr ⟨rfl, _, rfl⟩) ((ev_comp1 (d := .range 0 m 1) (n := m) (items := fun j => .int (0 + (j : Int) * 1)) (fun j => .zs (things R12 (kOf ns) (j : Int))) (fun _ => true) R.hand
    (ev_call1 (d1 := .int m) (by walk_at "ev") (.type _) (by walk_at "ev") (fun h' v e i => ev_range1 i)) (hm0 ▸ src_up (by decide) (by decide) (by omega) (by omega)) (by omega) (fun _ _ => trivial) rfl (by decide +kernel) rfl (by decide +kernel) rfl ?body1).mono fun v H e x => by
      have := picked_zss x
      rwa [List.filter_eq_self.mpr (by simp)] at this) rfl fun h₄ t₄ F₄ V₄ l₄ c₄ => ?_
  case body1 =>
    intro C j v H mm hj e hmm hx hv
    have hj0 : (0 + (j : Int) * 1) = (j : Nat) := by omega
    rw [hj0] at hv
    have T := thing_ok hgi hk2 hk4 (show j < whole (giOf ns) (kOf ns) by omega)
    refine ⟨tests_nil, fun _ => ?_⟩
    refine with_varsF (Named.vars' (.cons (x := "r") (d := .int (j : Nat)) (.inl ⟨rfl, mm, hmm, hx⟩) hv (.cons (x := "k") (res_comp rk e rfl rfl rfl) (ik.l e.l) (.cons (x := "rows") (res_comp rr e rfl rfl rfl) (ir.l e.l) (.val ((W'.up (F₃.keep.trans e)).res rfl rfl .T rfl) .nil)))) rfl) fun VC => ?_
    exact evF_eq (evF_call3 (d := .zs (things (pascal (giOf ns + 7)) (kOf ns) (j : Int))) (d1 := .zss (pascal (giOf ns + 7))) (d2 := .int (kOf ns)) (d3 := .int ((j : Nat) : Int)) (by walk_at "ev") (W'.up (F₃.keep.trans e)).fT.callee (by walk_at "ev") (by walk_at "ev") (by walk_at "ev")
      (fun h' v u t e' i j l => evF_things (W'.up ((F₃.keep.trans e).trans e')) R i j l (by rw [pascal_length]; omega) (by omega) (by rw [pascal_length]; omega) (fun r hr => by rw [pascal_row r hr]; omega) T.ok)) (congrArg D.zs T.eq)
  -- it rises
  obtain ⟨vh, rh, ih⟩ := V₄.2 "head" _ rfl
  have hhl := head_len (kOf ns) m
  have hm1 : ((m : Int) - 1).toNat = m - 1 := by omega
  refine st_if (s := { s with heap := h₄, toks := t₄ }) (β := false) (te_eq (te_neZ (as := []) (bs := []) hu ((ev_comp1 (d := .range 1 m 1) (n := m - 1) (items := fun j => .int (1 + (j : Int) * 1)) (fun j => .int (1 + (j : Int) * 1)) (fun j => !lexLt (things R12 (kOf ns) (j : Int)) (things R12 (kOf ns) ((j + 1 : Nat) : Int))) R.hand
    (ev_call2 (d1 := .int 1) (d2 := .int m) (by walk_at "ev") (.type _) (by walk_at "ev") (by walk_at "ev") (fun h' v u e i j => ev_range2 i j)) (hm1 ▸ src_up (by decide) (by decide) (by omega) (by omega)) (by omega) (fun _ _ => trivial) rfl (by decide +kernel) rfl (by decide +kernel) rfl ?body2).mono fun v h' e x => by
      have := picked_zs x
      rwa [none_kept (fun j hj => by have := rise_ok hk2 hk4 (p := j) (by omega); rw [show ((j + 1 : Nat) : Int) = (j : Int) + 1 from rfl, this]; rfl)] at this) (ev_listZ [] rfl args_nil (by decide))) rfl) (fun z => nomatch z) fun _ h₅ t₅ k₅ => wpAny_execs_nil ?_
  case body2 =>
    intro C x v' H mm hx0 e hmm hx hv
    have hj1 : (1 + (x : Int) * 1) = ((x + 1 : Nat) : Int) := by omega
    rw [hj1] at hv ⊢
    refine ⟨tests_one ?_, fun _ => EvF.ofInt ?_⟩
    · refine with_varsT (Named.vars' (.cons (x := "p") (d := .int ((x + 1 : Nat) : Int)) (.inl ⟨rfl, mm, hmm, hx⟩) hv (.cons (x := "head") (res_comp rh e rfl rfl rfl) (ih.l e.l) .nil)) rfl) fun VC => ?_
      refine te_geZ hu ?_ ?_
      · exact ev_eq (ev_itemL (k := ((x : Nat) : Int)) (by walk_at "ev") (ev_eq (ev_sub (a := ((x + 1 : Nat) : Int)) (b := 1) (by walk_at "ev") (by walk_at "ev")) (by congr 1; omega)) (by omega) (by omega) (by omega)) (by rw [Int.toNat_natCast, head_get (by omega)])
      · exact ev_eq (ev_itemL (k := ((x + 1 : Nat) : Int)) (by walk_at "ev") (by walk_at "ev") (by omega) (by omega) (by omega)) (by rw [Int.toNat_natCast, head_get (by omega)])
    · refine with_vars (Named.vars' (.cons (x := "p") (d := .int ((x + 1 : Nat) : Int)) (.inl ⟨rfl, mm, hmm, hx⟩) hv .nil) rfl) fun VC => ?_
      walk_at "ev"
  dsimp only
  have F₅ := F₄.up k₅; have V₅ := V₄.up k₅
  -- under
  refine st_assign (s := { s with heap := h₅, toks := t₅ }) (d := .zss (shadow (headOf (kOf ns) m))) F₅ V₅ (.inl rfl) (ev_call1 (d1 := .zss (headOf (kOf ns) m)) (by walk_at "ev") (W'.up F₅.keep).fS.callee (by walk_at "ev") (fun h' v e i => ev_shadow (W'.up (F₅.keep.trans e)) R i headOk)) rfl fun h₆ t₆ F₆ V₆ l₆ c₆ => ?_
  have hus := shadow_short headOk
  have uprop : ∀ t ∈ shadow (headOf (kOf ns) m), t.length = kOf ns - 1 ∧ ∀ x ∈ t, 0 ≤ x ∧ x < ((giOf ns + 4 : Nat) : Int) := fun t ht => by
    have h1 := shadow_mem ht
    obtain ⟨u, hu, hx⟩ := lost_from h1
    exact ⟨(lost_mem headOk t h1).1, fun x hxx => headLow u hu x (hx x hxx)⟩
  have ueq : (shadow (headOf (kOf ns) m)).map (number (pascal (giOf ns + 7))) = (List.range (kk (kOf ns) m)).map fun (i : Nat) => (i : Int) := by
    rw [← under_ok hk2 hk4 hrs.1 hrs.2]
    refine List.map_congr_left fun t ht => ?_
    obtain ⟨h1, h2⟩ := uprop t ht
    exact number_same hgi hk2 hk4 (by omega) h2
  obtain ⟨vr6, rr6, ir6⟩ := V₆.2 "rows" _ rfl
  generalize shadow (headOf (kOf ns) m) = U at V₆ hus uprop ueq
  have hb0 : ((kk (kOf ns) m : Nat) : Int) = ((kk (kOf ns) m : Nat) : Int) := rfl
  refine st_ret (s := { s with heap := h₆, toks := t₆ }) (P := Is (.bool true)) (ev_eq (ev_eqZ (as := U.map (number (pascal (giOf ns + 7)))) (bs := (List.range (kk (kOf ns) m)).map fun (i : Nat) => (i : Int)) hu
    ((ev_comp1 (d := .zss U) (n := U.length) (items := fun j => .zs (U.getD j [])) (fun j => .int (number (pascal (giOf ns + 7)) (U.getD j []))) (fun _ => true) R.hand (by walk_at "ev") (.zss U) (by omega) (fun _ _ => trivial) rfl (by decide +kernel) rfl (by decide +kernel) rfl ?body3).mono fun v h' e x => by
      have := picked_zs x
      rwa [List.filter_eq_self.mpr (by simp), range_map U [] (number (pascal (giOf ns + 7)))] at this)
    (ev_call1 (d1 := .range 0 ((kk (kOf ns) m : Nat) : Int) 1) (by walk_at "ev") (.type _) (ev_call1 (d1 := .int ((kk (kOf ns) m : Nat) : Int)) (by walk_at "ev") (.type _) (by walk_at "ev") (fun h' v e i => ev_range1 i)) (fun h' v e i => ev_listRange i R.hand (by omega)))) (congrArg D.bool (decide_eq_true ueq))) ?fin
  case body3 =>
    intro C j v H mm hj e hmm hx hv
    refine ⟨tests_nil, fun _ => EvF.ofInt ?_⟩
    have hmem : U.getD j [] ∈ U := by rw [List.getD, List.getElem?_eq_getElem hj]; exact List.getElem_mem _
    obtain ⟨u1, u2⟩ := uprop _ hmem
    refine with_vars (Named.vars' (.cons (x := "one") (d := .zs (U.getD j [])) (.inl ⟨rfl, mm, hmm, hx⟩) hv (.cons (x := "rows") (res_comp rr6 e rfl rfl rfl) (ir6.l e.l) (.val ((W'.up (F₆.keep.trans e)).res rfl rfl .N rfl) .nil))) rfl) fun VC => ?_
    exact ev_call2 (d1 := .zss (pascal (giOf ns + 7))) (d2 := .zs (U.getD j [])) (by walk_at "ev") (W'.up (F₆.keep.trans e)).fN.callee (by walk_at "ev") (by walk_at "ev")
      (fun h' v u e' i j => ev_number (W'.up ((F₆.keep.trans e).trans e')) R i j (by rw [pascal_length]; omega) (by omega) (by rw [pascal_length]; omega) (fun r hr => by rw [pascal_row r hr]; omega) (num_ok hgi hk2 hk4 (by omega) u2))
  case fin =>
    intro v h' tk k i
    have i : v = .bool true := i
    subst i
    obtain ⟨h, tk', rfl⟩ := hs₀
    obtain ⟨mm, hn⟩ := (F₆.up k).ns
    exact ⟨h', tk, rfl, rfl, eb2.trans (F₆.up k).keep, mm, hn⟩

theorem walk_law {E : Value → Shared → Prop} (W : Wd a b) (R : Room 2 A) (F : Fm b (EW L q fo cd) [] s.heap) (V : Vars (EW L q fo cd) s.heap (rW ns a)) (hns : ns.length ≤ 63) :
    wpAny (model prog w) A (execs (dBody (defAt 8)) (EW L q fo cd)) (LawEnd b L s) E s :=
  walk_law1 W R F V hns fun h₁ t₁ F₁ V₁ => wpAny_mono (walk_law2 (s := { s with heap := h₁, toks := t₁ }) W R F₁ V₁ fun p b' h₂ t₂ eb F₂ V₂ i₂ => walk_law3 (s := { s with heap := h₂, toks := t₂ }) { s with heap := h₁, toks := t₁ } ⟨h₂, t₂, rfl⟩ W R eb F₂ V₂ i₂)
    (fun fl s' p => p) fun _ _ e => e
end
end Mine
end

section -- Jn
open PySem PySem.W PyProof.Rows PySem.Calls
set_option Elab.async false
set_option maxRecDepth 100000
set_option maxHeartbeats 4000000
set_option linter.unusedVariables false
namespace Mine

theorem cells_above {h₀ h : Heap} {L : Addr} {cm : Str → Option Value} {cs : List (Str × Addr)} {cells : List (Addr × Obj)} (X : CellsAre cm cs cells) (N : News h₀ L h cells) :
    ∀ n c, cs.lookup n = some c → h₀.get? c = none ∧ ∃ v, h.IsCell c v := by
  induction X with
  | nil => intro n c e; cases e
  | @cons n' c' o cs cells hd _ ih =>
    intro n c e
    rw [List.lookup_cons] at e
    cases hb : n == n' with
    | true =>
      rw [hb] at e; cases e
      obtain ⟨g, _, z⟩ := N _ (.head _)
      exact ⟨z, _, o, g, hd⟩
    | false => rw [hb] at e; exact ih (fun p hp => N p (.tail _ hp)) n c e

theorem up_ne (z d : Nat) : z + (d + 1) ≠ z := by omega
theorem fm_start {h₀ h₁ : Heap} {q : Str} {fo : Option Addr} {cd : Value} {cm mg mb mm : Str → Option Value} {cells : List (Addr × Obj)} (F : Fr h₀ h₀.objs.size h₁ mm) (N : News h₀ h₀.objs.size h₁ cells)
    (X : CellsAre cm (cellsFrom (h₀.objs.size + 1) (dScope (defAt 8)).names []) cells) (G : h₀.Ns mainGlobals mg) (B : h₀.Ns builtinsNs mb) : Fm h₀ (EW h₀.objs.size q fo cd) [] h₁ where
  keep := F.keep
  off := fun a ha => by
    rcases ha with rfl | ⟨n, l⟩ | ha
    · exact none_of_ge (Nat.le_refl _)
    · exact (cells_above X N n a l).1
    · cases ha
  kind := rfl
  ns := ⟨_, F.ns⟩
  cell := fun n c l => (cells_above X N n c l).2
  apart := fun n n' c l l' => by
    have h1 := mem_of_lookup l
    have h2 := mem_of_lookup l'
    change (n, c) ∈ [(_, _), (_, _), (_, _), (_, _), (_, _), (_, _)] at h1
    change (n', c) ∈ [(_, _), (_, _), (_, _), (_, _), (_, _), (_, _)] at h2
    simp only [List.mem_cons, Prod.mk.injEq, List.not_mem_nil, or_false] at h1 h2
    rcases h1 with ⟨rfl, e1⟩ | ⟨rfl, e1⟩ | ⟨rfl, e1⟩ | ⟨rfl, e1⟩ | ⟨rfl, e1⟩ | ⟨rfl, e1⟩ <;>
    rcases h2 with ⟨rfl, e2⟩ | ⟨rfl, e2⟩ | ⟨rfl, e2⟩ | ⟨rfl, e2⟩ | ⟨rfl, e2⟩ | ⟨rfl, e2⟩ <;>
    first
    | rfl
    | (exfalso; have e3 := e1.symm.trans e2; clear e1 e2; simp at e3; done)
    | (exfalso; have e3 := e1.symm.trans e2; clear e1 e2; simp at e3
       first
       | exact up_ne _ 0 e3 | exact up_ne _ 1 e3 | exact up_ne _ 2 e3 | exact up_ne _ 3 e3 | exact up_ne _ 4 e3
       | exact up_ne _ 0 e3.symm | exact up_ne _ 1 e3.symm | exact up_ne _ 2 e3.symm | exact up_ne _ 3 e3.symm | exact up_ne _ 4 e3.symm)
  glob := ⟨_, G⟩
  bult := ⟨_, B⟩
  lists := fun a ha => by cases ha

theorem fnAt_of {h : Heap} {f : Addr} {body : List Stmt} {scope : Scope} {k : Nat} {bind : List Value → List (Str × Value)} {o : Obj} {fd : FuncData} (ho : h.get? f = some o) (hd : o.data = .func fd) (hc : h.CodeRec fd.code fd.qualname)
    (hb : fd.body = .stmts body) (hs : fd.scope = scope) (hg : fd.globals = mainGlobals) (hbu : fd.builtins = builtinsNs) (hcl : fd.closure = [])
    (hbi : ∀ s : Shared, Ext h s.heap → ∀ vs : List Value, vs.length = k → BindsTo s fd ⟨vs, []⟩ (bind vs)) : FnAt h f body scope k bind :=
  ⟨o, fd, ho, hd, hc, hb, hs, hg, hbu, hcl, hbi⟩
theorem binds1 {h : Heap} {fd : FuncData} {n1 : Str} (e : ∀ v, bindArgs fd ⟨[v], []⟩ = pure (bindZ [n1] [v])) : ∀ s : Shared, Ext h s.heap → ∀ vs : List Value, vs.length = 1 → BindsTo s fd ⟨vs, []⟩ (bindZ [n1] vs)
  | s, _, [v], _ => BindsTo.of_eq (e v)
theorem binds2 {h : Heap} {fd : FuncData} {n1 n2 : Str} (e : ∀ v u, bindArgs fd ⟨[v, u], []⟩ = pure (bindZ [n1, n2] [v, u])) : ∀ s : Shared, Ext h s.heap → ∀ vs : List Value, vs.length = 2 → BindsTo s fd ⟨vs, []⟩ (bindZ [n1, n2] vs)
  | s, _, [v, u], _ => BindsTo.of_eq (e v u)
theorem binds3 {h : Heap} {fd : FuncData} {n1 n2 n3 : Str} (e : ∀ v u t, bindArgs fd ⟨[v, u, t], []⟩ = pure (bindZ [n1, n2, n3] [v, u, t])) : ∀ s : Shared, Ext h s.heap → ∀ vs : List Value, vs.length = 3 → BindsTo s fd ⟨vs, []⟩ (bindZ [n1, n2, n3] vs)
  | s, _, [v, u, t], _ => BindsTo.of_eq (e v u t)
def dPar : Stmt → Arguments
  | .FunctionDef _ a _ _ _ _ _ _ _ _ => a
  | _ => { posonlyargs := [], args := [], vararg := none, kwonlyargs := [], kw_defaults := [], kwarg := none, defaults := [] }
theorem bindsC {h : Heap} {fd : FuncData} {T d : Addr} {o od : Obj} {t : Tok} {n ep : Nat} {es : Array DictEntry} (hp : fd.params = dPar (defAt 1)) (hd : fd.defaults = .ref T) (hkw : fd.kwdefaults = .ref d)
    (ho : h.get? T = some o) (hs : o.data = .seq #[.int 0 t, .none] n) (hod : h.get? d = some od) (hds : od.data = .dict es ep) (hk : StrKeys es) (hf : nsFind es "key" = some .none) :
    ∀ s : Shared, Ext h s.heap → ∀ vs : List Value, vs.length = 2 → BindsTo s fd ⟨vs, []⟩ (bindB t vs)
  | s, e, [v, u], _ => fun M A E Q hq => by
    unfold bindArgs
    rw [hp, hd, hkw]
    have e1 : dPar (defAt 1) = { posonlyargs := [], args := [{ arg := "a", annotation := none, pos := ⟨2, 17, 2, 18⟩ }, { arg := "x", annotation := none, pos := ⟨2, 20, 2, 21⟩ }, { arg := "lo", annotation := none, pos := ⟨2, 23, 2, 25⟩ }, { arg := "hi", annotation := none, pos := ⟨2, 29, 2, 31⟩ }], vararg := none, kwonlyargs := [{ arg := "key", annotation := none, pos := ⟨2, 41, 2, 44⟩ }], kw_defaults := (dPar (defAt 1)).kw_defaults, kwarg := none, defaults := (dPar (defAt 1)).defaults } := by rfl
    rw [e1]
    dsimp only
    simp only [List.forIn_nil, pure_bind, List.map_cons, List.map_nil, List.nil_append]
    refine wpAny_bind (wpAny_seqItems (e _ _ ho) hs ?_)
    have hab : ((("a" : Str) == ("lo" : Str)) = false) := by decide
    rw [if_neg (by simp)]
    generalize hc : (!(List.filter _ _).isEmpty) = c
    have hc' : c = false := by rw [← hc]; rfl
    subst hc'
    rw [if_neg (by simp)]
    generalize hz : List.zip (List.drop _ _) (List.drop _ _) = z
    have hz' : z = [(("lo" : Str), Value.int 0 t), (("hi" : Str), Value.none)] := by rw [← hz]; rfl
    subst hz'
    simp only [List.forIn_cons, List.forIn_nil]
    generalize hi1 : (List.lookup (Str.ofString "lo") _).isNone = b1
    have hi1' : b1 = true := by rw [← hi1]; rfl
    subst hi1'
    simp only [if_true, pure_bind]
    generalize hi2 : (List.lookup (Str.ofString "hi") _).isNone = b2
    have hi2' : b2 = true := by rw [← hi2]; rfl
    subst hi2'
    simp only [if_true, pure_bind]
    generalize hi3 : (List.lookup (Str.ofString "key") _).isNone = b3
    have hi3' : b3 = true := by rw [← hi3]; rfl
    subst hi3'
    simp only [if_true, pure_bind]
    refine wpAny_bind (wpAny_bind (wpAny_bind (wpAny_nsGet (m := nsFind es) ⟨od, es, ep, e _ _ hod, hds, hk, fun _ => rfl⟩ ?_)))
    rw [hf]
    refine wpAny_pure (wpAny_pure ?_)
    rw [if_neg (by simp)]
    exact wpAny_pure hq

theorem law_close {prog : Program} {w : World} {A : Around} {a : Ad} {c : ClaimW} {cl : Str → Option Addr} {mean : ExcName → Option Value} {args : List WData} {s₁ : Shared} {h₁ : Heap} {tk₁ : Nat} {q : Str} {fo : Option Addr} {cd : Value} {ns : List Int} {l : Addr} {vs : List Value} {E : Value → Shared → Prop}
    {cm mm : Str → Option Value} {cells : List (Addr × Obj)}
    (W : Wd a s₁.heap) (R : Room 2 A) (F : Fr s₁.heap s₁.heap.objs.size h₁ mm) (N : News s₁.heap s₁.heap.objs.size h₁ cells) (X : CellsAre cm (cellsFrom (s₁.heap.objs.size + 1) (dScope (defAt 8)).names []) cells)
    (hm : mm "script" = some (.ref l)) (hL : s₁.heap.IsList l vs.toArray) (hI : IntsAre vs ns) (hl : ns.length ≤ 63) (hg : s₁.gens = #[])
    (hn : ∀ cls, c.raises args cls = false) (hp : c.post args (.bool true) args = true) :
    wpAny (model prog w) A (execs (dBody (defAt 8)) (EW s₁.heap.objs.size q fo cd)) (fun f s' => GoodW c cl mean args s₁ (Except.ok (Flow.ret (match f with | Flow.ret v => v | _ => Value.none))) s') E { s₁ with heap := h₁, toks := tk₁ } := by
  obtain ⟨mg, mb, G, B, _⟩ := W.names
  have Fm₁ := fm_start (q := q) (fo := fo) (cd := cd) F N X G B
  have W₁ := W.up F.keep
  refine wpAny_mono (walk_law (s := { s₁ with heap := h₁, toks := tk₁ }) W R Fm₁ (Named.vars' (.cons (.inl ⟨rfl, _, F.ns, hm⟩) ⟨l, vs, rfl, (LExt.isList (Ext.l F.keep) hL), hI⟩
    (.val (W₁.res rfl rfl .abs rfl) (.val (W₁.res rfl rfl .P rfl) (.val (W₁.res rfl rfl .list rfl) (.val (W₁.res rfl rfl .min rfl) (.val (W₁.res rfl rfl .len rfl) (.val (W₁.res rfl rfl .sorted rfl) (.val (W₁.res rfl rfl .range rfl)
      (.val (W₁.res rfl rfl .T rfl) (.val (W₁.res rfl rfl .N rfl) (.val (W₁.res rfl rfl .O rfl) (.val (W₁.res rfl rfl .S rfl) .nil)))))))))))) rfl) hl) (fun fl s' p => ?_) fun _ _ e => e
  obtain ⟨h', tk, rfl, rfl, e, m, hns⟩ := p
  exact goodW_bool (L := s₁.heap.objs.size) (m := m) ⟨hns, e, Nat.le_refl _⟩ hg hn hp
end Mine
end

open PySem PySem.W PyProof.Rows
set_option maxRecDepth 100000 in
set_option maxHeartbeats 8000000 in
theorem PySem.Challenge.cw_dj5001_01_holds : PySem.Challenge.rw_dj5001_01.Holds := by
  w_on
  o_law
  k_head
  (case hw => w_witness2)
  w_strict (
    k_go0
    rename Top _ _ _ _ _ _ => T
    rename Frag.In _ _ => KX
    rename Fr _ _ _ _ => F
    rename News _ _ _ _ => N0
    rename CellsAre _ _ _ => X0
    rename IntsAre _ _ => hI
    rename Heap.IsList _ _ _ => hL
    rename (_ : Shared).gens = #[] => hg
    rename ¬ _ < _ => hlen
    have e1 := mg_of (n := "bisect_right") KX T.g (by k_is)
    have e2 := mg_of (n := "_law_pascal") KX T.g (by k_is)
    have e3 := mg_of (n := "_law_things") KX T.g (by k_is)
    have e4 := mg_of (n := "_law_number") KX T.g (by k_is)
    have e5 := mg_of (n := "_law_shadow") KX T.g (by k_is)
    have e6 := mg_of (n := "_law_bound") KX T.g (by k_is)
    have n_len := mg_none_of (n := "len") KX T.g (by k_is)
    have n_range := mg_none_of (n := "range") KX T.g (by k_is)
    have n_sum := mg_none_of (n := "sum") KX T.g (by k_is)
    have n_sorted := mg_none_of (n := "sorted") KX T.g (by k_is)
    have n_abs := mg_none_of (n := "abs") KX T.g (by k_is)
    have n_min := mg_none_of (n := "min") KX T.g (by k_is)
    have n_list := mg_none_of (n := "list") KX T.g (by k_is)
    have k1 := KX 23 _ (by k_is)
    have k15 := KX 15 _ (by k_is)
    have k16 := KX 16 _ (by k_is)
    have k2 := KX 30 _ (by k_is)
    have k3 := KX 37 _ (by k_is)
    have k4 := KX 42 _ (by k_is)
    have k5 := KX 47 _ (by k_is)
    have k6 := KX 54 _ (by k_is)
    have f1 := Mine.fnAt_of (k := 2) k1 rfl (codeRec_of KX (by k_is)) rfl rfl rfl rfl rfl (Mine.bindsC rfl rfl rfl k15 rfl k16 rfl (by intro e he; simp at he; subst he; exact ⟨_, _, rfl⟩) rfl)
    have f2 := Mine.fnAt_of (k := 1) k2 rfl (codeRec_of KX (by k_is)) rfl rfl rfl rfl rfl (Mine.binds1 (n1 := "top") fun _ => rfl)
    have f3 := Mine.fnAt_of (k := 3) k3 rfl (codeRec_of KX (by k_is)) rfl rfl rfl rfl rfl (Mine.binds3 (n1 := "rows") (n2 := "k") (n3 := "number") fun _ _ _ => rfl)
    have f4 := Mine.fnAt_of (k := 2) k4 rfl (codeRec_of KX (by k_is)) rfl rfl rfl rfl rfl (Mine.binds2 (n1 := "rows") (n2 := "picked") fun _ _ => rfl)
    have f5 := Mine.fnAt_of (k := 1) k5 rfl (codeRec_of KX (by k_is)) rfl rfl rfl rfl rfl (Mine.binds1 (n1 := "sets") fun _ => rfl)
    have f6 := Mine.fnAt_of (k := 3) k6 rfl (codeRec_of KX (by k_is)) rfl rfl rfl rfl rfl (Mine.binds3 (n1 := "rows") (n2 := "k") (n3 := "m") fun _ _ _ => rfl)
    have W := Mine.Wd.mk (a := ⟨23, 30, 37, 42, 47, 54⟩) T.nolimit ⟨_, _, T.g, T.b, e1, e2, e3, e4, e5, e6, ⟨n_len, (T.builtins "len" (by decide)).trans (by rfl)⟩, ⟨n_range, (T.builtins "range" (by decide)).trans (by rfl)⟩, ⟨n_sum, (T.builtins "sum" (by decide)).trans (by rfl)⟩, ⟨n_sorted, (T.builtins "sorted" (by decide)).trans (by rfl)⟩, ⟨n_abs, (T.builtins "abs" (by decide)).trans (by rfl)⟩, ⟨n_min, (T.builtins "min" (by decide)).trans (by rfl)⟩, ⟨n_list, (T.builtins "list" (by decide)).trans (by rfl)⟩⟩ ⟨_, f1⟩ f2 f3 f4 f5 f6
    have R : Mine.Room 3 callerA := ⟨rfl, by decide, by decide⟩
    exact Mine.law_close W (R.deeper _) F N0 X0 rfl hL hI (by omega) hg (fun _ => rfl) (by wrow_post))
