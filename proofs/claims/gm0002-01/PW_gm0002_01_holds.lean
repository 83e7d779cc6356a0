import PyProof.Rows.All
import Wide.All
import OpenK.AllK
import Wide.FinOn
import PySem.Challenge.RW_gm0002_01
open PySem PySem.W PyProof.Rows PySem.Calls
set_option Elab.async false
set_option linter.unusedVariables false
section

open PySem PySem.W PyProof.Rows PySem.Calls
namespace Mine

abbrev NE : Value → Shared → Prop := fun _ _ => False

/-- sequences and dicts are data; the rest (cells, iterators) may turn -/
def Firm (o : Obj) : Prop := match o.data with
  | .seq .. => True
  | .dict .. => True
  | _ => False

/-- all data outside D stands -/
def Le (D : Addr → Prop) (h h' : Heap) : Prop := ∀ b o, ¬ D b → Firm o → h.get? b = some o → h'.get? b = some o

theorem keeps_refl (s : Shared) : Keeps s s := ⟨s.heap, s.toks, rfl, fun _ _ e => e⟩
theorem keeps_trans {s₁ s₂ s₃ : Shared} (a : Keeps s₁ s₂) (b : Keeps s₂ s₃) : Keeps s₁ s₃ := by
  obtain ⟨h, t, rfl, ha⟩ := a
  obtain ⟨h', t', rfl, hb⟩ := b
  exact ⟨h', t', rfl, fun c o e => hb c o (ha c o e)⟩
theorem keeps_get {s s' : Shared} (a : Keeps s s') {b : Addr} {o : Obj} (e : s.heap.get? b = some o) : s'.heap.get? b = some o := by
  obtain ⟨h, t, rfl, ha⟩ := a; exact ha b o e
theorem keeps_le {s s' : Shared} (a : Keeps s s') (D : Addr → Prop) : Le D s.heap s'.heap := fun _ _ _ _ e => keeps_get a e
theorem keeps_toks (s : Shared) (t : Nat) : Keeps s { s with toks := t } := ⟨s.heap, t, rfl, fun _ _ e => e⟩
theorem keeps_push (s : Shared) (o : Obj) : Keeps s { s with heap := s.heap.push o } := ⟨_, s.toks, rfl, fun _ _ e => Heap.get?_push_of_some _ e⟩
theorem keeps_push_toks (s : Shared) (o : Obj) (t : Nat) : Keeps s { s with heap := s.heap.push o, toks := t } := ⟨_, t, rfl, fun _ _ e => Heap.get?_push_of_some _ e⟩

def Live (D : Addr → Prop) (h : Heap) : Prop := ∀ a, D a → ∃ o, h.get? a = some o
theorem live_keeps {D : Addr → Prop} {s s' : Shared} (l : Live D s.heap) (k : Keeps s s') : Live D s'.heap := fun a d => let ⟨o, e⟩ := l a d; ⟨o, keeps_get k e⟩
theorem live_fresh {D : Addr → Prop} {h : Heap} (l : Live D h) : ¬ D h.objs.size := fun d => let ⟨_, e⟩ := l _ d; Nat.lt_irrefl _ (Heap.lt_size e)
theorem live_none {D : Addr → Prop} {h : Heap} {a : Addr} (l : Live D h) (e : h.get? a = none) : ¬ D a := fun d => by
  obtain ⟨o, e'⟩ := l _ d; rw [e] at e'; cases e'

/-- a relation of values and data, over a heap, that stands while what lies outside D stands -/
structure Ty (α : Type) where
  is : (Addr → Prop) → Heap → Value → α → Prop
  mono : ∀ {D : Addr → Prop} {h h' : Heap} {v : Value} {x : α}, Le D h h' → is D h v x → is D h' v x
  wide : ∀ {D D' : Addr → Prop} {h : Heap} {v : Value} {x : α}, (∀ a o, h.get? a = some o → D' a → D a) → is D h v x → is D' h v x

def tInt : Ty Int := ⟨fun _ _ v x => ∃ t, v = .int x t, fun _ x => x, fun _ x => x⟩
def tBool : Ty Bool := ⟨fun _ _ v x => v = .bool x, fun _ x => x, fun _ x => x⟩
def tVal : Ty Value := ⟨fun _ _ v x => v = x, fun _ x => x, fun _ x => x⟩
def tStr : Ty Str := ⟨fun _ _ v x => ∃ t, v = .str x t, fun _ x => x, fun _ x => x⟩

abbrev tupObj (items : Array Value) (n : Nat) : Obj := { cls := .type "tuple", data := .seq items n }
abbrev lstObj (items : Array Value) (n : Nat) : Obj := { cls := .type "list", data := .seq items n }
theorem firm_tup (i : Array Value) (n : Nat) : Firm (tupObj i n) := trivial
theorem firm_lst (i : Array Value) (n : Nat) : Firm (lstObj i n) := trivial

def tPair {α β : Type} (T : Ty α) (U : Ty β) : Ty (α × β) where
  is D h v x := ∃ p n u w, v = .ref p ∧ ¬ D p ∧ h.get? p = some (tupObj #[u, w] n) ∧ T.is D h u x.1 ∧ U.is D h w x.2
  mono := fun k ⟨p, n, u, w, e, d, g, a, b⟩ => ⟨p, n, u, w, e, d, k _ _ d (firm_tup _ _) g, T.mono k a, U.mono k b⟩
  wide := fun k ⟨p, n, u, w, e, d, g, a, b⟩ => ⟨p, n, u, w, e, fun q => d (k _ _ g q), g, T.wide k a, U.wide k b⟩

theorem paired_mono {α β : Type} {F G : α → β → Prop} (hm : ∀ a b, F a b → G a b) {l₁ : List α} {l₂ : List β} (h : Paired F l₁ l₂) : Paired G l₁ l₂ := Paired.mono hm h
theorem paired_append {α β : Type} {F : α → β → Prop} {a c : List α} {b d : List β} (h : Paired F a b) (k : Paired F c d) : Paired F (a ++ c) (b ++ d) := by
  induction h with
  | nil => exact k
  | cons h _ ih => exact .cons h ih
theorem paired_get {α β : Type} {F : α → β → Prop} {l₁ : List α} {l₂ : List β} (h : Paired F l₁ l₂) : ∀ (i : Nat) (y : β), l₂[i]? = some y → ∃ x, l₁[i]? = some x ∧ F x y := by
  induction h with
  | nil => intro i y e; simp at e
  | cons h _ ih =>
    intro i y e
    cases i with
    | zero => simp at e; subst e; exact ⟨_, rfl, h⟩
    | succ i => simpa using ih i y (by simpa using e)
theorem paired_drop {α β : Type} {F : α → β → Prop} {l₁ : List α} {l₂ : List β} (h : Paired F l₁ l₂) : ∀ n, Paired F (l₁.drop n) (l₂.drop n) := by
  induction h with
  | nil => intro n; simpa using Paired.nil
  | cons h t ih =>
    intro n
    cases n with
    | zero => exact .cons h t
    | succ n => simpa using ih n
theorem paired_take {α β : Type} {F : α → β → Prop} {l₁ : List α} {l₂ : List β} (h : Paired F l₁ l₂) : ∀ n, Paired F (l₁.take n) (l₂.take n) := by
  induction h with
  | nil => intro n; simpa using Paired.nil
  | cons h t ih =>
    intro n
    cases n with
    | zero => exact .nil
    | succ n => simpa using Paired.cons h (ih n)

def tList {α : Type} (T : Ty α) : Ty (List α) where
  is D h v xs := ∃ p n vs, v = .ref p ∧ ¬ D p ∧ h.get? p = some (lstObj (List.toArray vs) n) ∧ Paired (T.is D h) vs xs
  mono := fun k ⟨p, n, vs, e, d, g, a⟩ => ⟨p, n, vs, e, d, k _ _ d (firm_lst _ _) g, paired_mono (fun _ _ => T.mono k) a⟩
  wide := fun k ⟨p, n, vs, e, d, g, a⟩ => ⟨p, n, vs, e, fun q => d (k _ _ g q), g, paired_mono (fun _ _ => T.wide k) a⟩

section
variable {prog : Program} {w : World} {A : Around} {D : Addr → Prop} {s s₁ : Shared}

/-- t, run anywhere behind s, leaves what stood, and gives P -/
def Hs (prog : Program) (w : World) (A : Around) (D : Addr → Prop) (s : Shared) {β : Type} (t : Sem β) (P : Heap → β → Prop) : Prop :=
  ∀ s', Keeps s s' → Live D s'.heap → wpAny (model prog w) A t (fun v s'' => Keeps s' s'' ∧ P s''.heap v) NE s'
abbrev Has (prog : Program) (w : World) (A : Around) (D : Addr → Prop) (s : Shared) {α : Type} (t : Sem Value) (T : Ty α) (x : α) : Prop := Hs prog w A D s t fun h v => T.is D h v x

theorem Hs.up {β : Type} {t : Sem β} {P : Heap → β → Prop} (k : Keeps s s₁) (h : Hs prog w A D s t P) : Hs prog w A D s₁ t P := fun s' k' l => h s' (keeps_trans k k') l
theorem Hs.use {β : Type} {t : Sem β} {P : Heap → β → Prop} {Q : β → Shared → Prop} {E : Value → Shared → Prop} (h : Hs prog w A D s t P) (l : Live D s.heap)
    (k : ∀ v s', Keeps s s' → P s'.heap v → Q v s') : wpAny (model prog w) A t Q E s :=
  wpAny_mono (h s (keeps_refl s) l) (fun v s' x => k v s' x.1 x.2) fun _ _ x => x.elim
theorem Hs.weak {β : Type} {t : Sem β} {P P' : Heap → β → Prop} (h : Hs prog w A D s t P) (k : ∀ s' v, Keeps s s' → P s'.heap v → P' s'.heap v) : Hs prog w A D s t P' :=
  fun s' k' l => wpAny_mono (h s' k' l) (fun v s'' x => ⟨x.1, k _ v (keeps_trans k' x.1) x.2⟩) fun _ _ x => x
theorem Hs.pure {β : Type} {v : β} {P : Heap → β → Prop} (h : ∀ s', Keeps s s' → P s'.heap v) : Hs prog w A D s (Pure.pure v) P := fun s' k _ => wpAny_pure ⟨keeps_refl _, h s' k⟩
theorem Hs.bind {β γ : Type} {m : Sem β} {f : β → Sem γ} {P : Heap → β → Prop} {Q : Heap → γ → Prop} (hm : Hs prog w A D s m P)
    (hf : ∀ s₁ v, Keeps s s₁ → P s₁.heap v → Hs prog w A D s₁ (f v) Q) : Hs prog w A D s (m >>= f) Q := fun s' k l =>
  wpAny_bind (wpAny_mono (hm s' k l) (fun v s'' x => wpAny_mono (hf s'' v (keeps_trans k x.1) x.2 s'' (keeps_refl _) (live_keeps l x.1)) (fun _ _ y => ⟨keeps_trans x.1 y.1, y.2⟩) fun _ _ y => y) fun _ _ y => y)

/-- a step given by a rule of the base: from every s', every way on from a kept state -/
theorem Hs.of {β : Type} {t : Sem β} {P : Heap → β → Prop}
    (h : ∀ s' Q, Keeps s s' → Live D s'.heap → (∀ v s'', Keeps s' s'' → P s''.heap v → Q v s'') → wpAny (model prog w) A t Q NE s') : Hs prog w A D s t P :=
  fun s' k l => h s' _ k l fun _ _ k' p => ⟨k', p⟩

variable {env : Env}

theorem hs_binop {α β : Type} {T : Ty α} {U : Ty β} {x : α} {y : β} {l r : Expr} {op : Operator} {pos : Pos} {P : Heap → Value → Prop} (ha : Has prog w A D s (eval l env) T x) (hb : Has prog w A D s (eval r env) U y)
    (h : ∀ s₁ u v, Keeps s s₁ → T.is D s₁.heap u x → U.is D s₁.heap v y → Hs prog w A D s₁ (binaryOp op u v) P) : Hs prog w A D s (eval (.BinOp l op r pos) env) P :=
  fun s' k L => wpAny_BinOp (wpAny_mono (ha s' k L) (fun u s₁ a => wpAny_mono (hb s₁ (keeps_trans k a.1) (live_keeps L a.1)) (fun v s₂ b =>
    wpAny_mono (h s₂ u v (keeps_trans k (keeps_trans a.1 b.1)) (T.mono (keeps_le b.1 D) a.2) b.2 s₂ (keeps_refl _) (live_keeps L (keeps_trans a.1 b.1)))
      (fun _ _ c => ⟨keeps_trans (keeps_trans a.1 b.1) c.1, c.2⟩) fun _ _ e => e) fun _ _ e => e) fun _ _ e => e)

theorem hs_cmp {α β : Type} {T : Ty α} {U : Ty β} {x : α} {y : β} {l r : Expr} {op : CmpOp} {pos : Pos} {P : Heap → Value → Prop} (ha : Has prog w A D s (eval l env) T x) (hb : Has prog w A D s (eval r env) U y)
    (h : ∀ s₁ u v, Keeps s s₁ → T.is D s₁.heap u x → U.is D s₁.heap v y → Hs prog w A D s₁ (compareOp op u v) P) (hm : behindInMarks op r = false := by with_unfolding_all rfl) : Hs prog w A D s (eval (.Compare l [op] [r] pos) env) P :=
  fun s' k L => wpAny_Compare1 (wpAny_mono (ha s' k L) (fun u s₁ a => wpAny_mono (hb s₁ (keeps_trans k a.1) (live_keeps L a.1)) (fun v s₂ b =>
    wpAny_mono (h s₂ u v (keeps_trans k (keeps_trans a.1 b.1)) (T.mono (keeps_le b.1 D) a.2) b.2 s₂ (keeps_refl _) (live_keeps L (keeps_trans a.1 b.1)))
      (fun _ _ c => ⟨keeps_trans (keeps_trans a.1 b.1) c.1, c.2⟩) fun _ _ e => e) fun _ _ e => e) fun _ _ e => e) hm

/-- a test: the bool of a comparison -/
abbrev Tst (prog : Program) (w : World) (A : Around) (D : Addr → Prop) (s : Shared) (e : Expr) (env : Env) (b : Bool) : Prop := Hs prog w A D s (isTrue e env (eval e env)) fun _ r => r = b

theorem tst_cmp {α β : Type} {T : Ty α} {U : Ty β} {x : α} {y : β} {l r : Expr} {op : CmpOp} {pos : Pos} {b : Bool} (ha : Has prog w A D s (eval l env) T x) (hb : Has prog w A D s (eval r env) U y)
    (h : ∀ s₁ u v, Keeps s s₁ → T.is D s₁.heap u x → U.is D s₁.heap v y → Has prog w A D s₁ (compareOp op u v) tBool b) (hm : behindInMarks op r = false := by with_unfolding_all rfl) : Tst prog w A D s (.Compare l [op] [r] pos) env b :=
  fun s' k L => wpAny_isTrue_Compare1 (wpAny_mono (ha s' k L) (fun u s₁ a => wpAny_mono (hb s₁ (keeps_trans k a.1) (live_keeps L a.1)) (fun v s₂ b =>
    wpAny_mono (h s₂ u v (keeps_trans k (keeps_trans a.1 b.1)) (T.mono (keeps_le b.1 D) a.2) b.2 s₂ (keeps_refl _) (live_keeps L (keeps_trans a.1 b.1)))
      (fun c s₃ z => by
        obtain ⟨z1, z2⟩ := z
        cases z2
        exact wpAny_truthy_bool ⟨keeps_trans (keeps_trans a.1 b.1) z1, rfl⟩) fun _ _ e => e) fun _ _ e => e) fun _ _ e => e) hm

theorem tst_not {x : Expr} {pos : Pos} {b : Bool} (h : Tst prog w A D s x env b) : Tst prog w A D s (.UnaryOp .Not x pos) env (!b) := fun s' k l => by
  show wpAny _ A (do return !(← isTrue x env (eval x env))) _ _ s'
  exact wpAny_bind (wpAny_mono (h s' k l) (fun r s'' y => wpAny_pure ⟨y.1, by rw [y.2]⟩) fun _ _ e => e)

theorem tst_and2 {x y : Expr} {pos : Pos} {a b : Bool} (hx : Tst prog w A D s x env a) (hy : a = true → Tst prog w A D s y env b) : Tst prog w A D s (.BoolOp .And [x, y] pos) env (a && b) := fun s' k l => by
  show wpAny _ A (do
    match BoolOp.And, ← isTrue x env (eval x env) with
    | .And, false => pure false
    | .Or, true => pure true
    | _, _ => (do
      match BoolOp.And, ← isTrue y env (eval y env) with
      | .And, false => pure false
      | .Or, true => pure true
      | _, _ => allTrue .And [] env)) _ _ s'
  refine wpAny_bind (wpAny_mono (hx s' k l) (fun r s₁ z => ?_) fun _ _ e => e)
  obtain ⟨z1, rfl⟩ := z
  cases r with
  | false => exact wpAny_pure ⟨z1, rfl⟩
  | true =>
    refine wpAny_bind (wpAny_mono (hy rfl s₁ (keeps_trans k z1) (live_keeps l z1)) (fun r s₂ y => ?_) fun _ _ e => e)
    obtain ⟨y1, rfl⟩ := y
    cases r with
    | false => exact wpAny_pure ⟨keeps_trans z1 y1, rfl⟩
    | true => exact wpAny_pure ⟨keeps_trans z1 y1, rfl⟩

theorem tst_or2 {x y : Expr} {pos : Pos} {a b : Bool} (hx : Tst prog w A D s x env a) (hy : a = false → Tst prog w A D s y env b) : Tst prog w A D s (.BoolOp .Or [x, y] pos) env (a || b) := fun s' k l => by
  show wpAny _ A (do
    match BoolOp.Or, ← isTrue x env (eval x env) with
    | .And, false => pure false
    | .Or, true => pure true
    | _, _ => (do
      match BoolOp.Or, ← isTrue y env (eval y env) with
      | .And, false => pure false
      | .Or, true => pure true
      | _, _ => allTrue .Or [] env)) _ _ s'
  refine wpAny_bind (wpAny_mono (hx s' k l) (fun r s₁ z => ?_) fun _ _ e => e)
  obtain ⟨z1, rfl⟩ := z
  cases r with
  | true => exact wpAny_pure ⟨z1, rfl⟩
  | false =>
    refine wpAny_bind (wpAny_mono (hy rfl s₁ (keeps_trans k z1) (live_keeps l z1)) (fun r s₂ y => ?_) fun _ _ e => e)
    obtain ⟨y1, rfl⟩ := y
    cases r with
    | true => exact wpAny_pure ⟨keeps_trans z1 y1, rfl⟩
    | false => exact wpAny_pure ⟨keeps_trans z1 y1, rfl⟩

theorem has_ifexp {α : Type} {T : Ty α} {y : α} {t a b : Expr} {pos : Pos} {c : Bool} (ht : Tst prog w A D s t env c) (ha : c = true → Has prog w A D s (eval a env) T y) (hb : c = false → Has prog w A D s (eval b env) T y) :
    Has prog w A D s (eval (.IfExp t a b pos) env) T y := fun s' k l => by
  show wpAny _ A (do if ← isTrue t env (eval t env) then eval a env else eval b env) _ _ s'
  refine wpAny_bind (wpAny_mono (ht s' k l) (fun r s₁ z => ?_) fun _ _ e => e)
  obtain ⟨z1, rfl⟩ := z
  cases r with
  | true => exact wpAny_mono (ha rfl s₁ (keeps_trans k z1) (live_keeps l z1)) (fun _ _ y => ⟨keeps_trans z1 y.1, y.2⟩) fun _ _ e => e
  | false => exact wpAny_mono (hb rfl s₁ (keeps_trans k z1) (live_keeps l z1)) (fun _ _ y => ⟨keeps_trans z1 y.1, y.2⟩) fun _ _ e => e

theorem has_int (i : Int) (k : Nat) (pos : Pos) : Has prog w A D s (eval (.Constant (.int i) k pos) env) tInt i := Hs.of fun s' Q _ _ h => wpAny_Constant_int (h _ _ (keeps_toks _ _) ⟨_, rfl⟩)
theorem has_bool (b : Bool) (k : Nat) (pos : Pos) : Has prog w A D s (eval (.Constant (.bool b) k pos) env) tBool b := Hs.of fun s' Q _ _ h => wpAny_pure (h _ _ (keeps_refl _) rfl)
theorem has_str (x : Str) (k : Nat) (pos : Pos) : Has prog w A D s (eval (.Constant (.str x) k pos) env) tStr x := Hs.of fun s' Q _ _ h => by
  show wpAny _ A (mkText x) Q NE s'
  exact fun _ _ _ => h _ _ (keeps_toks _ _) ⟨_, rfl⟩

-- ints
theorem has_add {l r : Expr} {pos : Pos} {x y : Int} (ha : Has prog w A D s (eval l env) tInt x) (hb : Has prog w A D s (eval r env) tInt y) : Has prog w A D s (eval (.BinOp l .Add r pos) env) tInt (x + y) :=
  hs_binop ha hb fun s₁ u v _ hu hv => by obtain ⟨_, rfl⟩ := hu; obtain ⟨_, rfl⟩ := hv; exact Hs.of fun s' Q _ _ h => wpAny_add_int (h _ _ (keeps_toks _ _) ⟨_, rfl⟩)
theorem has_sub {l r : Expr} {pos : Pos} {x y : Int} (ha : Has prog w A D s (eval l env) tInt x) (hb : Has prog w A D s (eval r env) tInt y) : Has prog w A D s (eval (.BinOp l .Sub r pos) env) tInt (x - y) :=
  hs_binop ha hb fun s₁ u v _ hu hv => by obtain ⟨_, rfl⟩ := hu; obtain ⟨_, rfl⟩ := hv; exact Hs.of fun s' Q _ _ h => PySem.P.sub_int (h _ _ (keeps_toks _ _) ⟨_, rfl⟩)
theorem has_mul {l r : Expr} {pos : Pos} {x y : Int} (ha : Has prog w A D s (eval l env) tInt x) (hb : Has prog w A D s (eval r env) tInt y) (hm : IntMulOk x y) : Has prog w A D s (eval (.BinOp l .Mult r pos) env) tInt (x * y) :=
  hs_binop ha hb fun s₁ u v _ hu hv => by obtain ⟨_, rfl⟩ := hu; obtain ⟨_, rfl⟩ := hv; exact Hs.of fun s' Q _ _ h => PySem.P.mul_int (h _ _ (keeps_toks _ _) ⟨_, rfl⟩) hm
theorem has_mod {l r : Expr} {pos : Pos} {x y : Int} (ha : Has prog w A D s (eval l env) tInt x) (hb : Has prog w A D s (eval r env) tInt y) (hy : y ≠ 0) : Has prog w A D s (eval (.BinOp l .Mod r pos) env) tInt (x.fmod y) :=
  hs_binop ha hb fun s₁ u v _ hu hv => by obtain ⟨_, rfl⟩ := hu; obtain ⟨_, rfl⟩ := hv; exact Hs.of fun s' Q _ _ h => mod_int' hy (h _ _ (keeps_toks _ _) ⟨_, rfl⟩)
theorem has_fdiv {l r : Expr} {pos : Pos} {x y : Int} (ha : Has prog w A D s (eval l env) tInt x) (hb : Has prog w A D s (eval r env) tInt y) (hy : y ≠ 0) (hp : Builtin.divisionGoesByPylong x y = false) : Has prog w A D s (eval (.BinOp l .FloorDiv r pos) env) tInt (x.fdiv y) :=
  hs_binop ha hb fun s₁ u v _ hu hv => by obtain ⟨_, rfl⟩ := hu; obtain ⟨_, rfl⟩ := hv; exact Hs.of fun s' Q _ _ h => floordiv_int hy (h _ _ (keeps_toks _ _) ⟨_, rfl⟩) (Or.inl hp)

-- ints compared
theorem cmp_eq {s₁ : Shared} {x y : Int} {u v : Value} (hu : tInt.is D s₁.heap u x) (hv : tInt.is D s₁.heap v y) : Has prog w A D s₁ (compareOp .Eq u v) tBool (x == y) := by
  obtain ⟨_, rfl⟩ := hu; obtain ⟨_, rfl⟩ := hv
  exact Hs.of fun s' Q _ _ h => (wpAny_eq_int (h _ _ (keeps_refl _) rfl) : wpAny _ _ (richCompare _ _ _) _ _ _)
theorem cmp_lt {s₁ : Shared} {x y : Int} {u v : Value} (hu : tInt.is D s₁.heap u x) (hv : tInt.is D s₁.heap v y) : Has prog w A D s₁ (compareOp .Lt u v) tBool (decide (x < y)) := by
  obtain ⟨_, rfl⟩ := hu; obtain ⟨_, rfl⟩ := hv
  exact Hs.of fun s' Q _ _ h => wpAny_lt_int (h _ _ (keeps_refl _) rfl)
theorem cmp_ne {s₁ : Shared} {x y : Int} {u v : Value} (hu : tInt.is D s₁.heap u x) (hv : tInt.is D s₁.heap v y) : Has prog w A D s₁ (compareOp .NotEq u v) tBool (x != y) := by
  obtain ⟨_, rfl⟩ := hu; obtain ⟨_, rfl⟩ := hv
  exact Hs.of fun s' Q _ _ h => PySem.P.ne_int (h _ _ (keeps_refl _) rfl)
theorem cmp_le {s₁ : Shared} {x y : Int} {u v : Value} (hu : tInt.is D s₁.heap u x) (hv : tInt.is D s₁.heap v y) : Has prog w A D s₁ (compareOp .LtE u v) tBool (decide (x ≤ y)) := by
  obtain ⟨_, rfl⟩ := hu; obtain ⟨_, rfl⟩ := hv
  exact Hs.of fun s' Q _ _ h => PySem.P.le_int (h _ _ (keeps_refl _) rfl)
theorem cmp_gt {s₁ : Shared} {x y : Int} {u v : Value} (hu : tInt.is D s₁.heap u x) (hv : tInt.is D s₁.heap v y) : Has prog w A D s₁ (compareOp .Gt u v) tBool (decide (x > y)) := by
  obtain ⟨_, rfl⟩ := hu; obtain ⟨_, rfl⟩ := hv
  exact Hs.of fun s' Q _ _ h => PySem.P.gt_int (h _ _ (keeps_refl _) rfl)
theorem cmp_ge {s₁ : Shared} {x y : Int} {u v : Value} (hu : tInt.is D s₁.heap u x) (hv : tInt.is D s₁.heap v y) : Has prog w A D s₁ (compareOp .GtE u v) tBool (decide (x ≥ y)) := by
  obtain ⟨_, rfl⟩ := hu; obtain ⟨_, rfl⟩ := hv
  exact Hs.of fun s' Q _ _ h => PySem.P.ge_int (h _ _ (keeps_refl _) rfl)
theorem cmp_neb {s₁ : Shared} {x y : Bool} {u v : Value} (hu : tBool.is D s₁.heap u x) (hv : tBool.is D s₁.heap v y) : Has prog w A D s₁ (compareOp .NotEq u v) tBool (x != y) := by
  cases hu; cases hv
  exact Hs.of fun s' Q _ _ h => ne_bool (h _ _ (keeps_refl _) rfl)
section
variable {l r : Expr} {pos : Pos} {x y : Int} (ha : Has prog w A D s (eval l env) tInt x) (hb : Has prog w A D s (eval r env) tInt y)
include ha hb
theorem has_eq (hm : behindInMarks .Eq r = false := by with_unfolding_all rfl) : Has prog w A D s (eval (.Compare l [.Eq] [r] pos) env) tBool (x == y) := hs_cmp ha hb (fun _ _ _ _ hu hv => cmp_eq hu hv) hm
theorem tst_eq (hm : behindInMarks .Eq r = false := by with_unfolding_all rfl) : Tst prog w A D s (.Compare l [.Eq] [r] pos) env (x == y) := tst_cmp ha hb (fun _ _ _ _ hu hv => cmp_eq hu hv) hm
theorem tst_ne (hm : behindInMarks .NotEq r = false := by with_unfolding_all rfl) : Tst prog w A D s (.Compare l [.NotEq] [r] pos) env (x != y) := tst_cmp ha hb (fun _ _ _ _ hu hv => cmp_ne hu hv) hm
theorem tst_lt (hm : behindInMarks .Lt r = false := by with_unfolding_all rfl) : Tst prog w A D s (.Compare l [.Lt] [r] pos) env (decide (x < y)) := tst_cmp ha hb (fun _ _ _ _ hu hv => cmp_lt hu hv) hm
theorem tst_le (hm : behindInMarks .LtE r = false := by with_unfolding_all rfl) : Tst prog w A D s (.Compare l [.LtE] [r] pos) env (decide (x ≤ y)) := tst_cmp ha hb (fun _ _ _ _ hu hv => cmp_le hu hv) hm
theorem has_le (hm : behindInMarks .LtE r = false := by with_unfolding_all rfl) : Has prog w A D s (eval (.Compare l [.LtE] [r] pos) env) tBool (decide (x ≤ y)) := hs_cmp ha hb (fun _ _ _ _ hu hv => cmp_le hu hv) hm
theorem tst_gt (hm : behindInMarks .Gt r = false := by with_unfolding_all rfl) : Tst prog w A D s (.Compare l [.Gt] [r] pos) env (decide (x > y)) := tst_cmp ha hb (fun _ _ _ _ hu hv => cmp_gt hu hv) hm
theorem tst_ge (hm : behindInMarks .GtE r = false := by with_unfolding_all rfl) : Tst prog w A D s (.Compare l [.GtE] [r] pos) env (decide (x ≥ y)) := tst_cmp ha hb (fun _ _ _ _ hu hv => cmp_ge hu hv) hm
theorem has_xor : Has prog w A D s (eval (.BinOp l .BitXor r pos) env) tInt (Builtin.bitXor x y) :=
  hs_binop ha hb fun s₁ u v _ hu hv => by obtain ⟨_, rfl⟩ := hu; obtain ⟨_, rfl⟩ := hv; exact Hs.of fun s' Q _ _ h => xor_int (h _ _ (keeps_toks _ _) ⟨_, rfl⟩)
theorem has_shr (hy : 0 ≤ y) : Has prog w A D s (eval (.BinOp l .RShift r pos) env) tInt (x.fdiv (2 ^ y.toNat)) :=
  hs_binop ha hb fun s₁ u v _ hu hv => by obtain ⟨_, rfl⟩ := hu; obtain ⟨_, rfl⟩ := hv; exact Hs.of fun s' Q _ _ h => rshift_int hy (h _ _ (keeps_toks _ _) ⟨_, rfl⟩)
theorem has_shl (hy : 0 ≤ y) (hy2 : y ≤ 1000000) (hx : x.natAbs < 2 ^ 64) : Has prog w A D s (eval (.BinOp l .LShift r pos) env) tInt (x * 2 ^ y.toNat) :=
  hs_binop ha hb fun s₁ u v _ hu hv => by obtain ⟨_, rfl⟩ := hu; obtain ⟨_, rfl⟩ := hv; exact Hs.of fun s' Q _ _ h => lshift_int_small hy hy2 hx (h _ _ (keeps_toks _ _) ⟨_, rfl⟩)
end
/-- 2 ** k -/
theorem has_pow2 {l r : Expr} {pos : Pos} {y : Int} (ha : Has prog w A D s (eval l env) tInt 2) (hb : Has prog w A D s (eval r env) tInt y) (hy : 0 ≤ y) (hy2 : y ≤ 1000) : Has prog w A D s (eval (.BinOp l .Pow r pos) env) tInt (2 ^ y.toNat) :=
  hs_binop ha hb fun s₁ u v _ hu hv => by
    obtain ⟨t, rfl⟩ := hu; obtain ⟨t', rfl⟩ := hv
    refine Hs.of fun s' Q _ _ h => ?_
    by_cases h0 : y = 0
    · subst h0
      exact AutoIntOps.pow_0 (by omega) rfl (h _ _ (keeps_toks _ _) ⟨_, rfl⟩)
    · refine AutoIntOps.pow_4 (by omega) (by simpa using h0) (by decide) (by decide) ?_ (h _ _ (keeps_toks _ _) ⟨_, rfl⟩)
      have hb2 : Builtin.Int.intBits 2 = 2 := by decide +kernel
      rw [hb2]
      unfold Builtin.Int.intTooBig
      simp only [decide_eq_true_eq]
      have hB : bitsLine = 134217728 := by decide +kernel
      rw [hB]
      omega
end
end Mine

end
section

open PySem PySem.W PyProof.Rows PySem.Calls
namespace Mine

structure Wd (g : Heap) (mg mb : Str → Option Value) : Prop where
  ng : g.Ns mainGlobals mg
  nb : g.Ns builtinsNs mb
  lim : g.NoLimit
def Sub (g h : Heap) : Prop := ∀ b o, g.get? b = some o → h.get? b = some o
theorem sub_keeps {g : Heap} {s s' : Shared} (x : Sub g s.heap) (k : Keeps s s') : Sub g s'.heap := fun b o e => keeps_get k (x b o e)

theorem ns_fun {h : Heap} {a : Addr} {m m' : Str → Option Value} (x : h.Ns a m) (y : h.Ns a m') : m = m' := by
  obtain ⟨o, es, ep, ho, hd, _, hf⟩ := x
  obtain ⟨o', es', ep', ho', hd', _, hf'⟩ := y
  rw [ho] at ho'; cases ho'
  rw [hd] at hd'; cases hd'
  funext n
  rw [← hf n, hf' n]

/-- a type and a datum of it -/
structure Ent where
  {α : Type}
  T : Ty α
  y : α
abbrev Rho := Str → Option Ent
def upd (ρ : Rho) (x : Str) (e : Ent) : Rho := fun z => if z = x then some e else ρ z

def NameAt (env : Env) (h : Heap) (x : Str) (v : Value) : Prop :=
  (env.kindOf x = some .local ∧ ∃ m, h.Ns env.locals m ∧ m x = some v) ∨
  ((env.kindOf x = some .cell ∨ (env.kindOf x = some .free ∧ (x == ("__classdict__" : Str)) = false)) ∧ ∃ c, env.cells.lookup x = some c ∧ h.IsCell c (some v))

/-- a frame: its names typed -/
structure Fm (s₀ : Shared) (D : Addr → Prop) (env : Env) (h : Heap) (ρ : Rho) : Prop where
  kind : env.scope.kind = .function
  ns : ∃ m, h.Ns env.locals m
  newL : s₀.heap.get? env.locals = none
  volL : D env.locals
  cells : ∀ x c, env.cells.lookup x = some c → ∃ v, h.IsCell c v
  apart : ∀ x y c, env.cells.lookup x = some c → env.cells.lookup y = some c → x = y
  cellOk : ∀ x, env.kindOf x = some .cell ∨ env.kindOf x = some .free → ∃ c, env.cells.lookup x = some c
  glob : env.globals = mainGlobals ∧ env.builtins = builtinsNs
  names : ∀ x e, ρ x = some e → ∃ v, NameAt env h x v ∧ e.T.is D h v e.y

structure Ex (g : Heap) (s₀ : Shared) (D : Addr → Prop) (env : Env) (s : Shared) (ρ : Rho) : Prop where
  sub : Sub g s₀.heap
  kp : Keeps s₀ s
  live : Live D s.heap
  fm : Fm s₀ D env s.heap ρ

theorem NameAt.keeps {env : Env} {s s' : Shared} {x : Str} {v : Value} (n : NameAt env s.heap x v) (k : Keeps s s') : NameAt env s'.heap x v := by
  rcases n with ⟨a, m, hn, hm⟩ | ⟨a, c, hc, hv⟩
  · exact .inl ⟨a, m, hn.keeps fun b o e => keeps_get k e, hm⟩
  · exact .inr ⟨a, c, hc, hv.keeps fun b o e => keeps_get k e⟩

section
variable {prog : Program} {w : World} {A : Around} {D : Addr → Prop} {s s₁ s₀ : Shared} {g : Heap} {env : Env} {ρ : Rho}

theorem Fm.keeps (F : Fm s₀ D env s.heap ρ) (k : Keeps s s₁) : Fm s₀ D env s₁.heap ρ where
  kind := F.kind
  ns := let ⟨m, hn⟩ := F.ns; ⟨m, hn.keeps fun b o e => keeps_get k e⟩
  newL := F.newL
  volL := F.volL
  cells x c e := let ⟨v, hv⟩ := F.cells x c e; ⟨v, hv.keeps fun b o e => keeps_get k e⟩
  apart := F.apart
  cellOk := F.cellOk
  glob := F.glob
  names x e he := let ⟨v, hv, ht⟩ := F.names x e he; ⟨v, hv.keeps k, e.T.mono (keeps_le k D) ht⟩

theorem Ex.up (X : Ex g s₀ D env s ρ) (k : Keeps s s₁) : Ex g s₀ D env s₁ ρ := ⟨X.sub, keeps_trans X.kp k, live_keeps X.live k, X.fm.keeps k⟩
theorem Ex.subs (X : Ex g s₀ D env s ρ) : Sub g s.heap := sub_keeps X.sub X.kp

theorem Ex.load {x : Str} {e : Ent} (X : Ex g s₀ D env s ρ) (h : ρ x = some e) {Q : Value → Shared → Prop} {E : Value → Shared → Prop} (q : ∀ v, e.T.is D s.heap v e.y → Q v s) : wpAny (model prog w) A (loadName env x) Q E s := by
  obtain ⟨v, hn, ht⟩ := X.fm.names x e h
  rcases hn with ⟨a, m, hn, hm⟩ | ⟨a | ⟨a, b⟩, c, hc, hv⟩
  · exact wpAny_loadName_local X.fm.kind a hn hm (q v ht)
  · exact wpAny_loadName_cell X.fm.kind a hc hv (q v ht)
  · exact wpAny_loadName_free X.fm.kind a hc hv (q v ht) b

theorem has_name {x : Str} {pos : Pos} {α : Type} {T : Ty α} {y : α} (X : Ex g s₀ D env s ρ) (h : ρ x = some ⟨T, y⟩) (hd : (x == ("__debug__" : Str)) = false := by decide) : Has prog w A D s (eval (.Name x pos) env) T y :=
  Hs.of fun s' Q k l q => wpAny_Name ((X.up k).load h fun v ht => q v s' (keeps_refl _) ht) hd

/-- what a global name is -/
def gl (mg mb : Str → Option Value) (x : Str) : Option Value := (mg x).or (mb x)
theorem has_glob {mg mb : Str → Option Value} (W : Wd g mg mb) {x : Str} {pos : Pos} {v : Value} (X : Ex g s₀ D env s ρ) (hk : env.kindOf x = some .globalImplicit) (hv : gl mg mb x = some v)
    (hd : (x == ("__debug__" : Str)) = false := by decide) : Has prog w A D s (eval (.Name x pos) env) tVal v :=
  Hs.of fun s' Q k l q => by
    have hs := (X.up k).subs
    have ng : s'.heap.Ns env.globals mg := by rw [X.fm.glob.1]; exact W.ng.keeps hs
    have nb : s'.heap.Ns env.builtins mb := by rw [X.fm.glob.2]; exact W.nb.keeps hs
    refine Name_function_global X.fm.kind hk ?_ hd
    unfold gl at hv
    cases hm : mg x with
    | some u =>
      rw [hm] at hv; cases hv
      exact loadGlobal_global ng hm (q _ _ (keeps_refl _) rfl)
    | none =>
      rw [hm] at hv
      exact loadGlobal_builtin ng hm nb hv (q _ _ (keeps_refl _) rfl)

/-- data outside D and every iterator stand -/
structure Calm (D : Addr → Prop) (s s' : Shared) : Prop where
  le : Le D s.heap s'.heap
  fields : ∀ a o vs, s.heap.get? a = some o → o.data = .fields vs → s'.heap.get? a = some o
theorem Calm.keeps (k : Keeps s s₁) : Calm D s s₁ := ⟨keeps_le k D, fun _ _ _ e _ => keeps_get k e⟩
theorem Calm.trans {s₂ : Shared} (a : Calm D s s₁) (b : Calm D s₁ s₂) : Calm D s s₂ := ⟨fun c o n f e => b.le c o n f (a.le c o n f e), fun c o vs e d => b.fields c o vs (a.fields c o vs e d) d⟩

/-- what a store of a name leaves -/
structure Others (D : Addr → Prop) (env : Env) (s s' : Shared) : Prop where
  still : ∀ a o, s.heap.get? a = some o → a ≠ env.locals → (∀ v, o.data ≠ .cell v) → s'.heap.get? a = some o
  calm : Calm D s s'
theorem others_refl (s : Shared) : Others D env s s := ⟨fun _ _ e _ _ => e, .keeps (keeps_refl s)⟩
theorem others_keeps (k : Keeps s s₁) : Others D env s s₁ := ⟨fun _ _ e _ _ => keeps_get k e, .keeps k⟩
theorem others_trans {s₂ : Shared} (a : Others D env s s₁) (b : Others D env s₁ s₂) : Others D env s s₂ := ⟨fun c o e n d => b.still c o (a.still c o e n d) n d, a.calm.trans b.calm⟩

def Own (s₀ : Shared) (env : Env) (x : Str) : Prop := env.kindOf x = some .local ∨ (env.kindOf x = some .cell ∧ ∃ c, env.cells.lookup x = some c ∧ s₀.heap.get? c = none)

theorem cell_ne_ns {h : Heap} {c a : Addr} {v : Option Value} {m : Str → Option Value} (hc : h.IsCell c v) (hn : h.Ns a m) : c ≠ a := by
  rintro rfl
  obtain ⟨o, ho, hd⟩ := hc
  obtain ⟨o', es, ep, ho', hd', _⟩ := hn
  rw [ho] at ho'; cases ho'
  rw [hd] at hd'; cases hd'

theorem le_of_sameBut {a : Addr} {h h' : Heap} (hs : Heap.SameBut a h h') (ha : D a ∨ ∀ o, h.get? a = some o → ¬ Firm o) : Le D h h' := fun b o nd f e => by
  by_cases hb : b = a
  · subst hb
    rcases ha with d | n
    · exact absurd d nd
    · exact absurd f (n o e)
  · exact (hs.2 b hb).trans e

theorem Ex.store {x : Str} {α : Type} {T : Ty α} {y : α} {v : Value} {Q : Unit → Shared → Prop} {E : Value → Shared → Prop} (X : Ex g s₀ D env s ρ) (o : Own s₀ env x) (hv : T.is D s.heap v y)
    (q : ∀ s', Ex g s₀ D env s' (upd ρ x ⟨T, y⟩) → Others D env s s' → Q () s') : wpAny (model prog w) A (storeName env x v) Q E s := by
  obtain ⟨hS, hK, hL, F⟩ := X
  obtain ⟨m, hn⟩ := F.ns
  rcases o with hl | ⟨hl, c, hc, hnew⟩
  · refine wpAny_storeName_local hl hn (fun h' hn' hs => q _ ?_ ?_) (by rw [F.kind]; rfl)
    · have hle : Le D s.heap h' := le_of_sameBut hs (.inl F.volL)
      refine ⟨hS, ?_, ?_, ?_⟩
      · obtain ⟨h0, t0, rfl, hk0⟩ := hK
        exact ⟨h', _, rfl, fun b o e => (hs.2 b (fun q => by rw [q, F.newL] at e; cases e)).trans (hk0 b o e)⟩
      · intro a d
        obtain ⟨o, e⟩ := hL a d
        by_cases ha : a = env.locals
        · subst ha
          obtain ⟨o', _, _, e', _⟩ := hn'
          exact ⟨o', e'⟩
        · exact ⟨o, (hs.2 a ha).trans e⟩
      · refine ⟨F.kind, ⟨_, hn'⟩, F.newL, F.volL, fun z c e => ?_, F.apart, F.cellOk, F.glob, fun z e hz => ?_⟩
        · obtain ⟨v', hv'⟩ := F.cells z c e
          exact ⟨v', hv'.sameBut hs (cell_ne_ns hv' hn)⟩
        · unfold upd at hz
          split at hz
          · rename_i hzx
            cases hz
            subst hzx
            exact ⟨v, .inl ⟨hl, _, hn', by simp⟩, T.mono hle hv⟩
          · rename_i hzx
            obtain ⟨u, hu, ht⟩ := F.names z e hz
            refine ⟨u, ?_, e.T.mono hle ht⟩
            rcases hu with ⟨a, m', hm', hmz⟩ | ⟨a, c, hc, hcv⟩
            · refine .inl ⟨a, _, hn', ?_⟩
              rw [if_neg hzx, ns_fun hn hm']; exact hmz
            · exact .inr ⟨a, c, hc, hcv.sameBut hs (cell_ne_ns hcv hn)⟩
    · refine ⟨fun a o e hne _ => (hs.2 a hne).trans e, le_of_sameBut hs (.inl F.volL), fun a o vs e d => (hs.2 a (fun q => ?_)).trans e⟩
      obtain ⟨o', es, ep, e', d', _⟩ := hn
      rw [q, e'] at e; cases e
      rw [d] at d'; cases d'
  · obtain ⟨v₀, hv₀⟩ := F.cells x c hc
    refine wpAny_storeName_cell F.kind hl hc hv₀ fun h' hcv hs => q _ ?_ ?_
    · have hle : Le D s.heap h' := le_of_sameBut hs (.inr fun o e f => by
        obtain ⟨o', e', d'⟩ := hv₀
        rw [e] at e'; cases e'
        unfold Firm at f; rw [d'] at f; exact f)
      have hcl : c ≠ env.locals := cell_ne_ns hv₀ hn
      refine ⟨hS, ?_, ?_, ?_⟩
      · obtain ⟨h0, t0, rfl, hk0⟩ := hK
        exact ⟨h', _, rfl, fun b o e => (hs.2 b (fun q => by rw [q, hnew] at e; cases e)).trans (hk0 b o e)⟩
      · intro a d
        obtain ⟨o, e⟩ := hL a d
        by_cases ha : a = c
        · subst ha
          obtain ⟨o', e', _⟩ := hcv
          exact ⟨o', e'⟩
        · exact ⟨o, (hs.2 a ha).trans e⟩
      · have hn' : h'.Ns env.locals m := hn.sameBut hs (Ne.symm hcl)
        refine ⟨F.kind, ⟨_, hn'⟩, F.newL, F.volL, fun z c' e => ?_, F.apart, F.cellOk, F.glob, fun z e hz => ?_⟩
        · obtain ⟨v', hv'⟩ := F.cells z c' e
          by_cases hcc : c' = c
          · subst hcc; exact ⟨_, hcv⟩
          · exact ⟨v', hv'.sameBut hs hcc⟩
        · unfold upd at hz
          split at hz
          · rename_i hzx
            cases hz
            subst hzx
            exact ⟨v, .inr ⟨.inl hl, c, hc, hcv⟩, T.mono hle hv⟩
          · rename_i hzx
            obtain ⟨u, hu, ht⟩ := F.names z e hz
            refine ⟨u, ?_, e.T.mono hle ht⟩
            rcases hu with ⟨a, m', hm', hmz⟩ | ⟨a, c', hc', hcv'⟩
            · exact .inl ⟨a, m', hm'.sameBut hs (Ne.symm hcl), hmz⟩
            · exact .inr ⟨a, c', hc', hcv'.sameBut hs fun q => hzx (F.apart z x c (q ▸ hc') hc)⟩
    · have key : ∀ a o, s.heap.get? a = some o → (∀ v, o.data ≠ .cell v) → h'.get? a = some o := fun a o e hnc => (hs.2 a (fun q => by
        obtain ⟨o', e', d'⟩ := hv₀
        rw [q, e'] at e; cases e
        exact hnc _ d')).trans e
      refine ⟨fun a o e _ hnc => key a o e hnc, le_of_sameBut hs (.inr fun o e f => ?_), fun a o vs e d => key a o e fun v q => by rw [d] at q; cases q⟩
      obtain ⟨o', e', d'⟩ := hv₀
      rw [e] at e'; cases e'
      unfold Firm at f; rw [d'] at f; exact f

theorem ex_assign {x : Str} {px pos : Pos} {e : Expr} {α : Type} {T : Ty α} {y : α} {Q : Flow → Shared → Prop} {E : Value → Shared → Prop} (X : Ex g s₀ D env s ρ) (he : Has prog w A D s (eval e env) T y) (o : Own s₀ env x)
    (h : ∀ s', Ex g s₀ D env s' (upd ρ x ⟨T, y⟩) → Others D env s s' → Q .next s') (hs : swapsWith e (some (.Name x px)) pos.line env = pure false := by rfl) : wpAny (model prog w) A (exec (.Assign [.Name x px] e pos) env) Q E s :=
  wpAny_Assign_Name (he.use X.live fun v s' k hv => (X.up k).store o hv fun s'' X'' ot => h s'' X'' (others_trans (others_keeps k) ot)) hs

theorem ex_return {e : Expr} {pos : Pos} {P : Heap → Value → Prop} {Q : Flow → Shared → Prop} {E : Value → Shared → Prop} (X : Ex g s₀ D env s ρ) (he : Hs prog w A D s (eval e env) P)
    (h : ∀ v s', Keeps s s' → P s'.heap v → Q (.ret v) s') : wpAny (model prog w) A (exec (.Return (some e) pos) env) Q E s :=
  wpAny_Return_some (he.use X.live fun v s' k hv => h v s' k hv)

theorem ex_if {t : Expr} {body orelse : List Stmt} {pos : Pos} {b : Bool} {Q : Flow → Shared → Prop} {E : Value → Shared → Prop} (X : Ex g s₀ D env s ρ) (ht : Tst prog w A D s t env b)
    (h : ∀ s', Ex g s₀ D env s' ρ → Keeps s s' → if b then wpAny (model prog w) A (execs body env) Q E s' else wpAny (model prog w) A (execs orelse env) Q E s') :
    wpAny (model prog w) A (exec (.If t body orelse pos) env) Q E s :=
  wpAny_If (ht.use X.live fun r s' k hr => by
    subst hr
    have := h s' (X.up k) k
    cases r <;> exact this)

theorem Ex.weak {ρ' : Rho} (X : Ex g s₀ D env s ρ) (h : ∀ z e, ρ' z = some e → ρ z = some e) : Ex g s₀ D env s ρ' :=
  ⟨X.sub, X.kp, X.live, ⟨X.fm.kind, X.fm.ns, X.fm.newL, X.fm.volL, X.fm.cells, X.fm.apart, X.fm.cellOk, X.fm.glob, fun z e q => X.fm.names z e (h z e q)⟩⟩

/-- the mutable set turned: more of it that is not yet met, or less of it -/
theorem Ex.wide {D' : Addr → Prop} (X : Ex g s₀ D env s ρ) (h : ∀ a o, s.heap.get? a = some o → D' a → D a) (hl : Live D' s.heap) (hL : D' env.locals) : Ex g s₀ D' env s ρ :=
  ⟨X.sub, X.kp, hl, ⟨X.fm.kind, X.fm.ns, X.fm.newL, hL, X.fm.cells, X.fm.apart, X.fm.cellOk, X.fm.glob, fun z e q => let ⟨v, a, b⟩ := X.fm.names z e q; ⟨v, a, e.T.wide h b⟩⟩⟩

/-- one more mutable object, made since -/
theorem Ex.grow {D' : Addr → Prop} (X : Ex g s₀ D env s ρ) (k : Keeps s s₁) (h : ∀ a o, s.heap.get? a = some o → D' a → D a) (hl : Live D' s₁.heap) (hL : D' env.locals) : Ex g s₀ D' env s₁ ρ :=
  ⟨X.sub, keeps_trans X.kp k, hl, ⟨X.fm.kind, (X.fm.keeps k).ns, X.fm.newL, hL, (X.fm.keeps k).cells, X.fm.apart, X.fm.cellOk, X.fm.glob, fun z e q => let ⟨v, a, b⟩ := X.fm.names z e q; ⟨v, a.keeps k, e.T.mono (keeps_le k _) (e.T.wide h b)⟩⟩⟩

end
end Mine

end
section

open PySem PySem.W PyProof.Rows PySem.Calls
namespace Mine

/-- values of the types and data told, in order -/
inductive Are (D : Addr → Prop) (h : Heap) : List Value → List Ent → Prop
  | nil : Are D h [] []
  | cons {v : Value} {e : Ent} {vs : List Value} {es : List Ent} : e.T.is D h v e.y → Are D h vs es → Are D h (v :: vs) (e :: es)
theorem Are.mono {D : Addr → Prop} {h h' : Heap} {vs : List Value} {es : List Ent} (k : Le D h h') (a : Are D h vs es) : Are D h' vs es := by
  induction a with
  | nil => exact .nil
  | cons x _ ih => exact .cons (Ent.T _ |>.mono k x) ih
theorem Are.one {D : Addr → Prop} {h : Heap} {vs : List Value} {α : Type} {T : Ty α} {y : α} (a : Are D h vs [⟨T, y⟩]) : ∃ v, vs = [v] ∧ T.is D h v y := by
  cases a with | cons x r => cases r with | nil => exact ⟨_, rfl, x⟩
theorem Are.two {D : Addr → Prop} {h : Heap} {vs : List Value} {α β : Type} {T : Ty α} {y : α} {U : Ty β} {z : β} (a : Are D h vs [⟨T, y⟩, ⟨U, z⟩]) : ∃ u v, vs = [u, v] ∧ T.is D h u y ∧ U.is D h v z := by
  cases a with | cons x r => obtain ⟨v, rfl, q⟩ := r.one; exact ⟨_, _, rfl, x, q⟩
theorem Are.three {D : Addr → Prop} {h : Heap} {vs : List Value} {α β γ : Type} {T : Ty α} {y : α} {U : Ty β} {z : β} {V : Ty γ} {t : γ} (a : Are D h vs [⟨T, y⟩, ⟨U, z⟩, ⟨V, t⟩]) : ∃ u v w, vs = [u, v, w] ∧ T.is D h u y ∧ U.is D h v z ∧ V.is D h w t := by
  cases a with | cons x r => obtain ⟨u, v, rfl, q⟩ := r.two; exact ⟨_, _, _, rfl, x, q⟩

section
variable {prog : Program} {w : World} {A : Around} {D : Addr → Prop} {s s₁ s₀ : Shared} {g : Heap} {env : Env} {ρ : Rho} {mg mb : Str → Option Value}

abbrev HsL (prog : Program) (w : World) (A : Around) (D : Addr → Prop) (s : Shared) (pos : Pos) (env : Env) (es : List Expr) (ts : List Ent) : Prop :=
  Hs prog w A D s (spliced (backTo pos (starEach es env))) fun h vs => Are D h vs ts

theorem hsl_nil {pos : Pos} : HsL prog w A D s pos env [] [] := Hs.of fun s' Q _ _ q => spliced_none (q _ _ (keeps_refl _) .nil)
theorem hsl_cons {pos : Pos} {e : Expr} {es : List Expr} {α : Type} {T : Ty α} {y : α} {ts : List Ent} (he : Has prog w A D s (eval e env) T y) (hs : HsL prog w A D s pos env es ts)
    (hp : starEach (e :: es) env = (false, eval e env) :: starEach es env := by rfl) : HsL prog w A D s pos env (e :: es) (⟨T, y⟩ :: ts) :=
  Hs.of fun s' Q k l q => spliced_more (wpAny_mono (he s' k l) (fun v s₁ a => wpAny_mono (hs s₁ (keeps_trans k a.1) (live_keeps l a.1)) (fun vs s₂ b =>
    q _ _ (keeps_trans a.1 b.1) (.cons (T.mono (keeps_le b.1 D) a.2) b.2)) fun _ _ e => e) fun _ _ e => e) hp

def Callee (h : Heap) (f : Value) : Prop := (∀ a, f ≠ .ref a) ∨ ∃ a o fd, f = .ref a ∧ h.get? a = some o ∧ o.data = .func fd
theorem Callee.keeps {f : Value} (c : Callee s.heap f) (k : Keeps s s₁) : Callee s₁.heap f := c.imp id fun ⟨a, o, fd, e, g, d⟩ => ⟨a, o, fd, e, keeps_get k g, d⟩
theorem Callee.sub {h : Heap} {f : Value} (c : Callee g f) (k : Sub g h) : Callee h f := c.imp id fun ⟨a, o, fd, e, g, d⟩ => ⟨a, o, fd, e, k _ _ g, d⟩
theorem Callee.keeper {M : Model} {h : Heap} {f : Value} (c : Callee h f) : ∃ k, (k = Keeper.frame ∨ k = Keeper.machine ∨ k = Keeper.boundFrame) ∧ Looks M h (keeperOf f) k := by
  rcases c with c | ⟨a, o, fd, rfl, ho, hd⟩
  · refine ⟨.machine, .inr (.inl rfl), ?_⟩
    cases f <;> first | exact .now | exact absurd rfl (c _)
  · refine ⟨.frame, .inl rfl, (Looks.ld (part := none) ho).andThen ?_⟩
    rw [hd]
    exact .now

theorem starEach_backTo_plain {pos : Pos} : ∀ {es : List Expr}, (∀ e ∈ es, isStarred e = false) → (backTo pos (starEach es env)).any (·.1) = false
  | [], _ => rfl
  | e :: es, h => by
    have h1 := h e (.head _)
    have ih := starEach_backTo_plain (pos := pos) (es := es) fun e' m => h e' (.tail _ m)
    have : starEach (e :: es) env = (false, eval e env) :: starEach es env := by cases e <;> first | rfl | (simp [isStarred] at h1)
    rw [this]
    show (false || (backTo pos (starEach es env)).any (·.1)) = false
    rw [ih]; rfl

theorem evalArgs_of {f : Value} {pos : Pos} {es : List Expr} {Q : Args → Shared → Prop} {E : Value → Shared → Prop} {M : Model} (hp : ∀ e ∈ es, isStarred e = false)
    (h : wpAny M A (spliced (backTo pos (starEach es env))) (fun vs s' => Q ⟨vs, []⟩ s') E s) : wpAny M A (evalArgs f true (backTo pos (starEach es env)) []) Q E s := by
  cases es with
  | nil =>
    show wpAny M A (evalArgs f true [] []) Q E s
    unfold evalArgs
    show wpAny M A (spliced [] >>= _) Q E s
    refine wpAny_bind (wpAny_mono h (fun vs s₁ h₁ => ?_) fun _ _ x => x)
    refine wpAny_holding ?_
    simp only [List.all_nil, if_true]
    refine wpAny_bind (wpAny_evalAll_nil ?_)
    exact wpAny_bind (wpAny_pure (wpAny_pure h₁))
  | cons e es =>
    have h1 := hp e (.head _)
    have : starEach (e :: es) env = (false, eval e env) :: starEach es env := by cases e <;> first | rfl | (simp [isStarred] at h1)
    rw [this] at h ⊢
    exact evalArgs_plain h

theorem hs_callWith {pos : Pos} {f : Value} {first : List Value} {es : List Expr} {ts : List Ent} {P : Heap → Value → Prop} (hp : ∀ e ∈ es, isStarred e = false) (c : Callee s.heap f) (ha : HsL prog w A D s pos env es ts)
    (h : ∀ s₁ vs, Keeps s s₁ → Are D s₁.heap vs ts → Hs prog w A D s₁ (call f (first ++ vs)) P) : Hs prog w A D s (callWith pos f first (backTo pos (starEach es env)) []) P := fun s' k l => by
  refine callWith_of (P := fun h => Callee h f) (by rw [starEach_backTo_plain hp]; rfl) (fun h x => x.keeper) (evalArgs_of hp (wpAny_mono (ha s' k l) (fun vs s₁ a => ⟨c.keeps (keeps_trans k a.1), ?_⟩) fun _ _ e => e))
  exact wpAny_mono (h s₁ vs (keeps_trans k a.1) a.2 s₁ (keeps_refl _) (live_keeps l a.1)) (fun _ _ b => ⟨keeps_trans a.1 b.1, b.2⟩) fun _ _ e => e

theorem hs_call {x : Str} {px pos : Pos} {f : Value} {es : List Expr} {ts : List Ent} {P : Heap → Value → Prop} (hf : Has prog w A D s (eval (.Name x px) env) tVal f) (c : Callee s.heap f) (ha : HsL prog w A D s pos env es ts)
    (h : ∀ s₁ vs, Keeps s s₁ → Are D s₁.heap vs ts → Hs prog w A D s₁ (call f vs) P) (hp : ∀ e ∈ es, isStarred e = false := by simp [isStarred]) : Hs prog w A D s (eval (.Call (.Name x px) es [] pos) env) P := by
  show Hs prog w A D s (eval (.Name x px) env >>= fun v => callWith pos v [] (backTo pos (starEach es env)) (backToKw pos (keywordEach [] env))) P
  refine Hs.bind hf fun s₁ v k hv => ?_
  cases hv
  exact hs_callWith hp (c.keeps k) (ha.up k) fun s₂ vs k' a => h s₂ vs (keeps_trans k k') a

/-- room for k more frames -/
structure Rm (A : Around) (k : Nat) : Prop where
  handled : A.handled = none
  depth : A.depth + k ≤ 900
  units : A.units + 4 * k ≤ 9000
theorem Rm.deeper {k : Nat} (r : Rm A (k + 1)) (env : Env) : Rm (A.deeper env) k := ⟨r.handled, by have := r.depth; show A.depth + 1 + k ≤ 900; omega, by have := r.units; show A.units + 3 + 4 * k ≤ 9000; omega⟩
theorem Rm.less {k j : Nat} (r : Rm A k) (h : j ≤ k) : Rm A j := ⟨r.handled, by have := r.depth; omega, by have := r.units; omega⟩
theorem Rm.in1 {k : Nat} (r : Rm A (k + 1)) : Rm A.in1 k := ⟨r.handled, by have := r.depth; show A.depth + k ≤ 900; omega, by have := r.units; show A.units + 1 + 4 * k ≤ 9000; omega⟩

/-- a module's function stands in g -/
structure FnAt (g : Heap) (mg : Str → Option Value) (name : Str) (params : Arguments) (body : List Stmt) (scope : Scope) (f : Value) : Prop where
  nm : mg name = some f
  fn : ∃ a o pm cd doc, f = .ref a ∧ g.get? a = some o ∧ o.data = .func (docDef name params body scope pm cd doc) ∧ g.CodeRec cd name
theorem FnAt.callee {name : Str} {params : Arguments} {body : List Stmt} {scope : Scope} {f : Value} (F : FnAt g mg name params body scope f) : Callee g f := by
  obtain ⟨a, o, pm, cd, doc, rfl, ho, hd, _⟩ := F.fn
  exact .inr ⟨a, o, _, rfl, ho, hd⟩
theorem FnAt.gl {name : Str} {params : Arguments} {body : List Stmt} {scope : Scope} {f : Value} (F : FnAt g mg name params body scope f) : gl mg mb name = some f := by unfold Mine.gl; rw [F.nm]; rfl

abbrev Binds := List (Str × Value × Ent)
def Binds.plain (b : Binds) : List (Str × Value) := b.map fun t => (t.1, t.2.1)
def Binds.rho : Binds → Rho
  | [] => fun _ => none
  | t :: r => upd (Binds.rho r) t.1 t.2.2

theorem bindL_keep (kd : Str → Option NameKind) (x : Str) : ∀ (l : List (Str × Value)) (m : Str → Option Value), x ∉ l.map (·.1) → bindL kd l m x = m x
  | [], m, _ => rfl
  | (n, v) :: r, m, h => by
    unfold bindL
    rw [bindL_keep kd x r _ fun q => h (.tail _ q)]
    split
    · show (if x = n then some v else m x) = m x
      rw [if_neg fun q => h (by rw [q]; exact .head _)]
    · rfl
theorem bindC_keep (kd : Str → Option NameKind) (x : Str) : ∀ (l : List (Str × Value)) (m : Str → Option Value), x ∉ l.map (·.1) → bindC kd l m x = m x
  | [], m, _ => rfl
  | (n, v) :: r, m, h => by
    unfold bindC
    rw [bindC_keep kd x r _ fun q => h (.tail _ q)]
    split
    · rfl
    · show (if x = n then some v else m x) = m x
      rw [if_neg fun q => h (by rw [q]; exact .head _)]
theorem bindL_at (kd : Str → Option NameKind) (x : Str) (v : Value) : ∀ (l : List (Str × Value)) (m : Str → Option Value), (l.map (·.1)).Nodup → (x, v) ∈ l → kd x = some .local → bindL kd l m x = some v
  | (n, u) :: r, m, hn, hm, hk => by
    unfold bindL
    have hn' := List.nodup_cons.mp hn
    cases hm with
    | head => rw [bindL_keep kd x r _ hn'.1, if_pos hk, if_pos rfl]
    | tail _ hm => exact bindL_at kd x v r _ hn'.2 hm hk
theorem bindC_at (kd : Str → Option NameKind) (x : Str) (v : Value) : ∀ (l : List (Str × Value)) (m : Str → Option Value), (l.map (·.1)).Nodup → (x, v) ∈ l → kd x = some .cell → bindC kd l m x = some v
  | (n, u) :: r, m, hn, hm, hk => by
    unfold bindC
    have hn' := List.nodup_cons.mp hn
    cases hm with
    | head => rw [bindC_keep kd x r _ hn'.1, if_neg (by rw [hk]; decide), if_pos rfl]
    | tail _ hm => exact bindC_at kd x v r _ hn'.2 hm hk

theorem rho_some : ∀ {b : Binds} {x : Str} {e : Ent}, b.rho x = some e → ∃ v, (x, v, e) ∈ b
  | [], _, _, h => by cases h
  | t :: r, x, e, h => by
    unfold Binds.rho upd at h
    split at h
    · rename_i hx; cases h; subst hx; exact ⟨t.2.1, .head _⟩
    · obtain ⟨v, hv⟩ := rho_some h; exact ⟨v, .tail _ hv⟩

/-- D with one more -/
def Plus (D : Addr → Prop) (a : Addr) : Addr → Prop := fun b => D b ∨ b = a

theorem plus_wide {h : Heap} {a : Addr} (e : h.get? a = none) : ∀ b o, h.get? b = some o → Plus D a b → D b := fun b o q d => d.elim id fun x => by rw [x, e] at q; cases q

/-- the frame that a call opens -/
theorem frame_new {scope : Scope} {a : Addr} {cd : Value} {name : Str} {b : Binds} {env : Env} {s' : Shared} (hk : scope.kind = .function)
    (he : env = newEnv scope s.heap.objs.size mainGlobals (cellsFrom (s.heap.objs.size + 1) scope.names []) (name ++ ".<locals>.") (some a) cd none builtinsNs)
    (x : InCallC s env.locals (bindL env.kindOf b.plain fun _ => none) env.cells (bindC env.kindOf b.plain fun _ => none) s')
    (hn : (b.map (·.1)).Nodup) (hloc : ∀ t ∈ b, scope.names.lookup t.1 = some .local ∨ (scope.names.lookup t.1 = some .cell ∧ ((cellsFrom (s.heap.objs.size + 1) scope.names []).lookup t.1).isSome = true)) (ht : ∀ t ∈ b, t.2.2.T.is D s.heap t.2.1 t.2.2.y)
    (hg : Sub g s.heap) (hl : Live D s.heap) (hfr : ∀ y ∈ scope.names, y.2 ≠ .free) : Ex g s (Plus D env.locals) env s' b.rho := by
  have hL : env.locals = s.heap.objs.size := by rw [he]; rfl
  have hfresh : s.heap.get? env.locals = none := by
    rw [hL]
    cases e : s.heap.get? s.heap.objs.size with
    | none => rfl
    | some o => exact absurd (Heap.lt_size e) (Nat.lt_irrefl _)
  obtain ⟨h₁, tk, rfl, hk₁⟩ := x.done
  have kp : Keeps s { s with heap := h₁, toks := tk } := ⟨h₁, tk, rfl, hk₁⟩
  have hsc : env.scope = scope := by rw [he]; rfl
  have hkd : ∀ z, env.kindOf z = scope.names.lookup z := fun z => by unfold Env.kindOf; rw [hsc]
  have hpl : (b.plain.map (·.1)).Nodup := by
    have : b.plain.map (·.1) = b.map (·.1) := by unfold Binds.plain; rw [List.map_map]; rfl
    rw [this]; exact hn
  refine ⟨hg, kp, ?_, ?_⟩
  · intro c d
    rcases d with d | rfl
    · obtain ⟨o, e⟩ := hl c d
      exact ⟨o, hk₁ c o e⟩
    · obtain ⟨o, _, _, e, _⟩ := x.toInCall.ns
      exact ⟨o, e⟩
  · refine ⟨by rw [hsc]; exact hk, ⟨_, x.toInCall.ns⟩, hfresh, .inr rfl, fun z c e => ⟨_, x.cell z c e⟩, fun z y c e e' => name_of_addr x.apart (mem_of_lookup e) (mem_of_lookup e'), fun z q => ?_, by rw [he]; exact ⟨rfl, rfl⟩, fun z e hz => ?_⟩
    · rw [hkd] at q
      rcases q with q | q
      · have := cellsFrom_some scope.names (s.heap.objs.size + 1) [] (x := z) (.inl q)
        obtain ⟨c, hc⟩ := Option.isSome_iff_exists.mp this
        exact ⟨c, by rw [he]; exact hc⟩
      · exact absurd rfl (hfr _ (mem_of_lookup q))
    obtain ⟨v, hv⟩ := rho_some hz
    have hvp : (z, v) ∈ b.plain := List.mem_map.mpr ⟨(z, v, e), hv, rfl⟩
    refine ⟨v, ?_, e.T.mono (keeps_le kp _) (e.T.wide (plus_wide hfresh) (ht _ hv))⟩
    rcases hloc _ hv with q | ⟨q, q'⟩
    · exact .inl ⟨(hkd z).trans q, _, x.toInCall.ns, bindL_at _ _ _ _ _ hpl hvp ((hkd z).trans q)⟩
    · obtain ⟨c, hc⟩ := Option.isSome_iff_exists.mp q'
      have hc' : env.cells.lookup z = some c := by rw [he]; exact hc
      have := x.cell z c hc'
      rw [bindC_at _ _ _ _ _ hpl hvp ((hkd z).trans q)] at this
      exact .inr ⟨.inl ((hkd z).trans q), c, hc', this⟩

/-- a call of a module's function, by a walk of its body -/
theorem hs_fn {name : Str} {params : Arguments} {body : List Stmt} {scope : Scope} {f : Value} {k : Nat} {P : Heap → Value → Prop} (W : Wd g mg mb) (hg : Sub g s.heap) (F : FnAt g mg name params body scope f) (R : Rm A (k + 1))
    (b : Binds) (hbind : ∀ pm cd doc, bindArgs (docDef name params body scope pm cd doc) ⟨b.map (·.2.1), []⟩ = pure b.plain)
    (ht : ∀ t ∈ b, t.2.2.T.is D s.heap t.2.1 t.2.2.y)
    (h : ∀ s₁ env a cd, Keeps s s₁ → env = newEnv scope s₁.heap.objs.size mainGlobals (cellsFrom (s₁.heap.objs.size + 1) scope.names []) (name ++ ".<locals>.") (some a) cd none builtinsNs → Rm (A.deeper env) k →
      ∀ s₂, Ex g s₁ (Plus D env.locals) env s₂ b.rho →
      wpAny (model prog w) (A.deeper env) (execs body env) (fun fl s' => Keeps s₁ s' ∧ P s'.heap (match fl with | .ret v => v | _ => .none)) NE s₂)
    (hn : (b.map (·.1)).Nodup := by decide)
    (hloc : ∀ n, ∀ t ∈ b, scope.names.lookup t.1 = some .local ∨ (scope.names.lookup t.1 = some .cell ∧ ((cellsFrom n scope.names []).lookup t.1).isSome = true))
    (hfr : ∀ y ∈ scope.names, y.2 ≠ .free)
    (hco : scope.isCoroutine = false := by rfl) (hgen : scope.isGenerator = false := by rfl) (hk : scope.kind = .function := by rfl) :
    Hs prog w A D s (call f (b.map (·.2.1))) P := fun s' kp l => by
  obtain ⟨a, o, pm, cd, doc, rfl, ho, hd, hcd⟩ := F.fn
  have hgs : Sub g s'.heap := sub_keeps hg kp
  refine wpAny_call (codeAny_call_function (by have := R.depth; show A.depth < 1000; omega) (hgs _ _ ho) hd hco hgen rfl (by
    obtain ⟨c, oc, vs, t, e1, e2, e3, e4⟩ := hcd
    exact ⟨c, oc, vs, t, e1, hgs _ _ e2, e3, e4⟩) ?_)
  rw [hbind]
  refine wpAny_pure (wpAny_newFunctionEnv_cells hk (fun t ht => ?_) fun env he s₂ x => ?_)
  · obtain ⟨t', ht', rfl⟩ := List.mem_map.mp ht
    exact hloc _ t' ht'
  · have X : Ex g s' (Plus D env.locals) env s₂ b.rho := frame_new hk he x hn (hloc _) (fun t m => t.2.2.T.mono (keeps_le kp D) (ht t m)) hgs l hfr
    refine ⟨(W.lim.keeps hgs).keeps fun b o e => keeps_get X.kp e, codeAny_func ?_⟩
    refine wpAny_mono (h s' env a cd kp he (R.deeper env) s₂ X) (fun fl s'' q => ?_) fun _ _ e => e.elim
    exact q

end
end Mine

end
section

open PySem PySem.W PyProof.Rows PySem.Calls
namespace Mine

theorem are_list {α : Type} {T : Ty α} {D : Addr → Prop} {h : Heap} : ∀ {xs : List α} {vs : List Value}, Are D h vs (xs.map fun x => ⟨T, x⟩) → Paired (T.is D h) vs xs
  | [], _, a => by cases a; exact .nil
  | x :: xs, _, a => by cases a with | cons q r => exact .cons q (are_list r)

theorem isList_of {h : Heap} {p : Addr} {i : Array Value} {n : Nat} (e : h.get? p = some (lstObj i n)) : h.IsList p i := ⟨_, e, rfl, n, rfl⟩
theorem isTuple_of {h : Heap} {p : Addr} {i : Array Value} {n : Nat} (e : h.get? p = some (tupObj i n)) : h.IsTuple p i := ⟨_, e, rfl, n, rfl⟩

section
variable {prog : Program} {w : World} {A : Around} {D : Addr → Prop} {s s₁ s₀ : Shared} {g : Heap} {env : Env} {ρ : Rho} {mg mb : Str → Option Value}

/-- a value that names a list made by this very step -/
def NewList (D : Addr → Prop) {α : Type} (T : Ty α) (s : Shared) (h : Heap) (v : Value) (xs : List α) : Prop :=
  ∃ p n vs, v = .ref p ∧ s.heap.get? p = none ∧ h.get? p = some (lstObj (List.toArray vs) n) ∧ Paired (T.is D h) vs xs

/-- a list made since s₀ -/
def tNew (s₀ : Shared) {α : Type} (T : Ty α) : Ty (List α) where
  is D h v xs := ∃ p n vs, v = .ref p ∧ ¬ D p ∧ h.get? p = some (lstObj (List.toArray vs) n) ∧ Paired (T.is D h) vs xs ∧ s₀.heap.get? p = none
  mono := fun k ⟨p, n, vs, e, d, g, a, z⟩ => ⟨p, n, vs, e, d, k _ _ d (firm_lst _ _) g, paired_mono (fun _ _ => T.mono k) a, z⟩
  wide := fun k ⟨p, n, vs, e, d, g, a, z⟩ => ⟨p, n, vs, e, fun q => d (k _ _ g q), g, paired_mono (fun _ _ => T.wide k) a, z⟩
theorem tNew_old {s₀ : Shared} {α : Type} {T : Ty α} {D : Addr → Prop} {h : Heap} {v : Value} {xs : List α} (x : (tNew s₀ T).is D h v xs) : (tList T).is D h v xs :=
  let ⟨p, n, vs, e, d, g, a, _⟩ := x; ⟨p, n, vs, e, d, g, a⟩
theorem keeps_none {a b : Shared} (k : Keeps a b) {p : Addr} (e : b.heap.get? p = none) : a.heap.get? p = none := by
  cases q : a.heap.get? p with
  | none => rfl
  | some o => rw [keeps_get k q] at e; cases e
theorem Has.old {α : Type} {T : Ty α} {t : Sem Value} {xs : List α} (h : Has prog w A D s t (tNew s T) xs) : Has prog w A D s t (tList T) xs := Hs.weak h fun _ _ _ x => tNew_old x

theorem none_size (h : Heap) : h.get? h.objs.size = none := by
  cases e : h.get? h.objs.size with
  | none => rfl
  | some o => exact absurd (Heap.lt_size e) (Nat.lt_irrefl _)

theorem has_newlistT {es : List Expr} {pos : Pos} {α : Type} {T : Ty α} {xs : List α} (h : HsL prog w A D s pos env es (xs.map fun x => ⟨T, x⟩)) (hsz : xs.length ≤ 1000) :
    Has prog w A D s (eval (.List es pos) env) (tNew s T) xs := fun s' k l =>
  List_ (wpAny_mono (h s' k l) (fun vs s₁ a => by
    have hp := are_list a.2
    have hl : vs.length ≤ 1000 := by rw [hp.length]; exact hsz
    refine wpAny_newList ⟨keeps_trans a.1 (keeps_push _ _), _, 0, vs, rfl, live_fresh (live_keeps l a.1), Heap.get?_push_size _ rfl, paired_mono (fun _ _ q => T.mono (keeps_le (keeps_push s₁ _) D) q) hp, keeps_none (keeps_trans k a.1) (none_size _)⟩ (Nat.le_trans hl (by rw [sizeLine_eq]; decide))) fun _ _ e => e)
theorem has_newlist {es : List Expr} {pos : Pos} {α : Type} {T : Ty α} {xs : List α} (h : HsL prog w A D s pos env es (xs.map fun x => ⟨T, x⟩)) (hsz : xs.length ≤ 1000) :
    Has prog w A D s (eval (.List es pos) env) (tList T) xs := (has_newlistT h hsz).old
theorem has_list0 {pos : Pos} {α : Type} (T : Ty α) : Has prog w A D s (eval (.List [] pos) env) (tList T) [] := has_newlist (xs := []) hsl_nil (by simp)
theorem has_list1 {pos : Pos} {e : Expr} {α : Type} {T : Ty α} {x : α} (he : Has prog w A D s (eval e env) T x) (hp : starEach [e] env = (false, eval e env) :: starEach [] env := by rfl) : Has prog w A D s (eval (.List [e] pos) env) (tList T) [x] :=
  has_newlist (xs := [x]) (hsl_cons he hsl_nil hp) (by simp)

theorem has_tuple2 {a b : Expr} {k : Nat} {pos : Pos} {α β : Type} {T : Ty α} {U : Ty β} {x : α} {y : β} (ha : Has prog w A D s (eval a env) T x) (hb : Has prog w A D s (eval b env) U y)
    (hp : starEach [a, b] env = [(false, eval a env), (false, eval b env)] := by rfl) : Has prog w A D s (eval (.Tuple [a, b] k pos) env) (tPair T U) (x, y) := fun s' k' l =>
  have hl : HsL prog w A D s pos env [a, b] [⟨T, x⟩, ⟨U, y⟩] := by
    have h1 : starEach [b] env = [(false, eval b env)] := by
      have := hp
      have e1 : ∃ c, starEach [a, b] env = c :: starEach [b] env := by cases a <;> exact ⟨_, rfl⟩
      obtain ⟨c, e1⟩ := e1
      rw [e1] at this
      exact (List.cons.inj this).2
    exact hsl_cons ha (hsl_cons hb hsl_nil h1) (by rw [hp, h1])
  Tuple_ (wpAny_mono (hl s' k' l) (fun vs s₁ q => by
    obtain ⟨u, v, rfl, hu, hv⟩ := q.2.two
    refine wpAny_newTuple ⟨keeps_trans q.1 (keeps_push _ _), _, 0, u, v, rfl, live_fresh (live_keeps l q.1), Heap.get?_push_size _ rfl, T.mono (keeps_le (keeps_push s₁ _) D) hu, U.mono (keeps_le (keeps_push s₁ _) D) hv⟩ (by rw [sizeLine_eq]; simp)) fun _ _ e => e)

-- subscripts
theorem hs_sub {value slice : Expr} {pos : Pos} {α β : Type} {T : Ty α} {U : Ty β} {x : α} {y : β} {P : Heap → Value → Prop} (ha : Has prog w A D s (eval value env) T x) (hb : Has prog w A D s (eval slice env) U y)
    (h : ∀ s₁ u v, Keeps s s₁ → T.is D s₁.heap u x → U.is D s₁.heap v y → Hs prog w A D s₁ (subscriptTail value slice u v) P) : Hs prog w A D s (eval (.Subscript value slice pos) env) P :=
  fun s' k L => Subscript_ (wpAny_mono (ha s' k L) (fun u s₁ a => wpAny_mono (hb s₁ (keeps_trans k a.1) (live_keeps L a.1)) (fun v s₂ b =>
    wpAny_mono (h s₂ u v (keeps_trans k (keeps_trans a.1 b.1)) (T.mono (keeps_le b.1 D) a.2) b.2 s₂ (keeps_refl _) (live_keeps L (keeps_trans a.1 b.1)))
      (fun _ _ c => ⟨keeps_trans (keeps_trans a.1 b.1) c.1, c.2⟩) fun _ _ e => e) fun _ _ e => e) fun _ _ e => e)

/-- xs[i], i in bounds -/
theorem has_item {n : Str} {pn pos : Pos} {slice : Expr} {α : Type} {T : Ty α} {xs : List α} {i : Int} {y : α} (ha : Has prog w A D s (eval (.Name n pn) env) (tList T) xs) (hb : Has prog w A D s (eval slice env) tInt i)
    (h0 : 0 ≤ i) (hhi : i < 2 ^ 63) (hy : xs[i.toNat]? = some y) (hs : ∀ o k t, subscripted slice false (.ref o) (.int k t) = operate [.ref o, .int k t] (getItem (.ref o) (.int k t)) := by intro _ _ _; with_unfolding_all rfl) :
    Has prog w A D s (eval (.Subscript (.Name n pn) slice pos) env) T y :=
  hs_sub ha hb fun s₁ u v k hu hv => by
    obtain ⟨p, m, vs, rfl, hd, hg, hp⟩ := hu
    obtain ⟨t, rfl⟩ := hv
    obtain ⟨x, hx, hx'⟩ := paired_get hp _ _ hy
    exact Hs.of fun s' Q k' l q => subscriptTail_builtin (isList_of (keeps_get k' hg)).typeIs slot_list_getitem.lookup (wpAny_getItem_list (isList_of (keeps_get k' hg)) h0 hhi (by simpa using hx) (q _ _ (keeps_refl _) (T.mono (keeps_le k' D) hx'))) (hs _ _ _)

theorem paired_len {α β : Type} {F : α → β → Prop} {a : List α} {b : List β} (h : Paired F a b) : a.length = b.length := h.length

/-- xs[-1] -/
theorem has_last {n : Str} {pn pos : Pos} {slice : Expr} {α : Type} {T : Ty α} {xs : List α} {y : α} (ha : Has prog w A D s (eval (.Name n pn) env) (tList T) xs) (hb : Has prog w A D s (eval slice env) tInt (-1))
    (hy : xs.getLast? = some y) (hs : ∀ o k t, subscripted slice false (.ref o) (.int k t) = operate [.ref o, .int k t] (getItem (.ref o) (.int k t)) := by intro _ _ _; with_unfolding_all rfl) :
    Has prog w A D s (eval (.Subscript (.Name n pn) slice pos) env) T y :=
  hs_sub ha hb fun s₁ u v k hu hv => by
    obtain ⟨p, m, vs, rfl, hd, hg, hp⟩ := hu
    obtain ⟨t, rfl⟩ := hv
    have hl := hp.length
    rw [List.getLast?_eq_getElem?] at hy
    have hpos : 0 < xs.length := by
      cases xs with
      | nil => simp at hy
      | cons _ _ => simp
    obtain ⟨x, hx, hx'⟩ := paired_get hp _ _ hy
    have e : ((-1 : Int) + ((List.toArray vs).size : Int)).toNat = xs.length - 1 := by rw [List.size_toArray, hl]; omega
    exact Hs.of fun s' Q k' l q => subscriptTail_builtin (isList_of (keeps_get k' hg)).typeIs slot_list_getitem.lookup (wpAny_getItem_list_neg (isList_of (keeps_get k' hg)) (by decide) (by rw [List.size_toArray, hl]; omega) (by decide) (by rw [e]; simpa using hx)
      (q _ _ (keeps_refl _) (T.mono (keeps_le k' D) hx'))) (hs _ _ _)

/-- pair[0], pair[1] -/
theorem has_fst {n : Str} {pn pos : Pos} {slice : Expr} {α β : Type} {T : Ty α} {U : Ty β} {p : α × β} (ha : Has prog w A D s (eval (.Name n pn) env) (tPair T U) p) (hb : Has prog w A D s (eval slice env) tInt 0)
    (hs : ∀ o k t, subscripted slice false (.ref o) (.int k t) = operate [.ref o, .int k t] (getItem (.ref o) (.int k t)) := by intro _ _ _; with_unfolding_all rfl) :
    Has prog w A D s (eval (.Subscript (.Name n pn) slice pos) env) T p.1 :=
  hs_sub ha hb fun s₁ u v k hu hv => by
    obtain ⟨q, m, a, b, rfl, hd, hg, hx, hy⟩ := hu
    obtain ⟨t, rfl⟩ := hv
    refine Hs.of fun s' Q k' l r => ?_
    have ht : IsTup s'.heap q #[a, b] := ⟨_, keeps_get k' hg, rfl, m, rfl⟩
    exact subscriptTail_builtin (T := "tuple") ⟨_, keeps_get k' hg, rfl⟩ slot_tuple_getitem.lookup (PyProof.Rows.getItem_tuple (j := 0) ht (by decide) (by decide) (by show seqIndex? 0 2 = some 0; decide) rfl (r _ _ (keeps_refl _) (T.mono (keeps_le k' D) hx))) (hs _ _ _)
theorem has_snd {n : Str} {pn pos : Pos} {slice : Expr} {α β : Type} {T : Ty α} {U : Ty β} {p : α × β} (ha : Has prog w A D s (eval (.Name n pn) env) (tPair T U) p) (hb : Has prog w A D s (eval slice env) tInt 1)
    (hs : ∀ o k t, subscripted slice false (.ref o) (.int k t) = operate [.ref o, .int k t] (getItem (.ref o) (.int k t)) := by intro _ _ _; with_unfolding_all rfl) :
    Has prog w A D s (eval (.Subscript (.Name n pn) slice pos) env) U p.2 :=
  hs_sub ha hb fun s₁ u v k hu hv => by
    obtain ⟨q, m, a, b, rfl, hd, hg, hx, hy⟩ := hu
    obtain ⟨t, rfl⟩ := hv
    refine Hs.of fun s' Q k' l r => ?_
    have ht : IsTup s'.heap q #[a, b] := ⟨_, keeps_get k' hg, rfl, m, rfl⟩
    exact subscriptTail_builtin (T := "tuple") ⟨_, keeps_get k' hg, rfl⟩ slot_tuple_getitem.lookup (PyProof.Rows.getItem_tuple (j := 1) ht (by decide) (by decide) (by show seqIndex? 1 2 = some 1; decide) rfl (r _ _ (keeps_refl _) (U.mono (keeps_le k' D) hy))) (hs _ _ _)

-- equality of data
def EqOk {α : Type} [DecidableEq α] (T : Ty α) : Prop :=
  (∀ {A : Around} {D : Addr → Prop} {s : Shared} {u v : Value} {x y : α}, A.units ≤ 9500 → T.is D s.heap u x → T.is D s.heap v y → SeqAt.EqAt A s u v (decide (x = y))) ∧
  (∀ {D : Addr → Prop} {h : Heap} {v : Value} {x y : α}, T.is D h v x → T.is D h v y → x = y)
theorem eqOk_int : EqOk tInt := by
  refine ⟨fun hu a b => ?_, fun a b => ?_⟩
  · obtain ⟨t, rfl⟩ := a
    obtain ⟨u, rfl⟩ := b
    intro prog w E Q q
    exact wpAny_eqBool_int q
  · obtain ⟨t, rfl⟩ := a
    obtain ⟨u, e⟩ := b
    cases e; rfl
theorem eqv_pair (a b c d : Int) : PyData.eqv (.tuple [.int a, .int b]) (.tuple [.int c, .int d]) = decide ((a, b) = (c, d)) := by
  simp [PyData.eqv, PyData.eqvAll, Prod.ext_iff, Bool.decide_and]
  rfl
abbrev tEdge : Ty (Int × Int) := tPair tInt tInt
theorem reads_edge {D : Addr → Prop} {h : Heap} {v : Value} {x : Int × Int} (a : tEdge.is D h v x) : ∃ as, Reads h v (.tuple [.int x.1, .int x.2]) as := by
  obtain ⟨p, n, u, w, rfl, _, hg, ⟨t, rfl⟩, ⟨t', rfl⟩⟩ := a
  exact ⟨_, .tuple hg rfl rfl (.cons (.int _ _) (.cons (.int _ _) .nil))⟩
theorem eqOk_edge : EqOk tEdge := by
  refine ⟨fun {A D s u v x y} hu a b => ?_, fun a b => ?_⟩
  · obtain ⟨as, ra⟩ := reads_edge a
    obtain ⟨bs, rb⟩ := reads_edge b
    have := SeqAt.eqAt_reads _ _ A s u v as bs ra rb rfl rfl (by
      show A.units + min 1 1 < cLine
      have : cLine = 9900 := rfl
      omega)
    rw [eqv_pair] at this
    exact this
  · obtain ⟨p, n, u, w, rfl, _, hg, ⟨t, e0⟩, ⟨t', e1⟩⟩ := a
    obtain ⟨p', n', u', w', e, _, hg', ⟨t2, e2⟩, ⟨t3, e3⟩⟩ := b
    cases e
    rw [hg] at hg'
    cases hg'
    rw [e0] at e2
    rw [e1] at e3
    exact Prod.ext (Value.int.inj e2).1 (Value.int.inj e3).1

end
end Mine

end
section

open PySem PySem.W PyProof.Rows PySem.Calls
namespace Mine
section
variable {prog : Program} {w : World} {A : Around} {D : Addr → Prop} {s s₁ s₀ : Shared} {g : Heap} {env : Env} {ρ : Rho} {mg mb : Str → Option Value}

theorem cLine_9900 : cLine = 9900 := rfl

/-- a list against a written empty one -/
theorem cmp_eq_nil {α β : Type} {T : Ty α} {U : Ty β} {xs : List α} {u v : Value} (hr : A.units ≤ 9500) (hu : (tList T).is D s₁.heap u xs) (hv : (tList U).is D s₁.heap v []) : Has prog w A D s₁ (compareOp .Eq u v) tBool xs.isEmpty := by
  obtain ⟨p, n, vs, rfl, _, hg, hp⟩ := hu
  obtain ⟨q, m, us, rfl, _, hg', hp'⟩ := hv
  have hl := hp.length
  have hl' := hp'.length
  have hus : us = [] := by simpa using hl'
  subst hus
  have := cLine_9900
  refine Hs.of fun s' Q k l h => ?_
  have h1 := isList_of (keeps_get k hg)
  have h2 := isList_of (keeps_get k hg')
  cases xs with
  | nil =>
    have hvs : vs = [] := by simpa using hl
    subst hvs
    exact SeqAt.eq_listAt (e := fun _ => true) h1 h2 rfl (by omega) (fun j a _ => absurd a (by simp)) (h _ _ (keeps_refl _) rfl)
  | cons x xs =>
    cases vs with
    | nil => simp at hl
    | cons y ys => exact SeqAt.eq_list_lengthsAt h1 h2 (by simp) (by omega) (h _ _ (keeps_refl _) rfl)
theorem cmp_ne_nil {α β : Type} {T : Ty α} {U : Ty β} {xs : List α} {u v : Value} (hr : A.units ≤ 9500) (hu : (tList T).is D s₁.heap u xs) (hv : (tList U).is D s₁.heap v []) : Has prog w A D s₁ (compareOp .NotEq u v) tBool (!xs.isEmpty) := by
  obtain ⟨p, n, vs, rfl, _, hg, hp⟩ := hu
  obtain ⟨q, m, us, rfl, _, hg', hp'⟩ := hv
  have hl := hp.length
  have hl' := hp'.length
  have hus : us = [] := by simpa using hl'
  subst hus
  have := cLine_9900
  refine Hs.of fun s' Q k l h => ?_
  have h1 := isList_of (keeps_get k hg)
  have h2 := isList_of (keeps_get k hg')
  cases xs with
  | nil =>
    have hvs : vs = [] := by simpa using hl
    subst hvs
    exact SeqAt.RcNeAt.lists (e := fun _ => true) h1 h2 rfl (by omega) (fun j a _ => absurd a (by simp)) prog w _ _ (h _ _ (keeps_refl _) rfl)
  | cons x xs =>
    cases vs with
    | nil => simp at hl
    | cons y ys => exact SeqAt.RcNeAt.lists_lengths h1 h2 (by simp) (by omega) prog w _ _ (h _ _ (keeps_refl _) rfl)

theorem cmp_ne_edge {x y : Int × Int} {u v : Value} (hr : A.units ≤ 9500) (hu : tEdge.is D s₁.heap u x) (hv : tEdge.is D s₁.heap v y) : Has prog w A D s₁ (compareOp .NotEq u v) tBool (!decide (x = y)) := by
  refine Hs.of fun s' Q k l h => ?_
  obtain ⟨as, ra⟩ := reads_edge (tEdge.mono (keeps_le k D) hu)
  obtain ⟨bs, rb⟩ := reads_edge (tEdge.mono (keeps_le k D) hv)
  have := cLine_9900
  have hq := h (.bool (!PyData.eqv (.tuple [.int x.1, .int x.2]) (.tuple [.int y.1, .int y.2]))) s' (keeps_refl _) (by rw [eqv_pair]; rfl)
  exact SeqAt.compareNe_reads ra rb rfl rfl (by show A.units + min 1 1 < cLine; omega) hq

open Classical in
theorem any_items {α : Type} [DecidableEq α] {T : Ty α} (hT : EqOk T) {h : Heap} {x : α} : ∀ {vs : List Value} {xs : List α}, Paired (T.is D h) vs xs → vs.any (fun y => decide (T.is D h y x)) = xs.any (fun y => decide (y = x))
  | [], [], _ => rfl
  | v :: vs, y :: ys, .cons a r => by
    rw [List.any_cons, List.any_cons, any_items hT r]
    congr 1
    by_cases e : y = x
    · subst e; simp [a]
    · have : ¬ T.is D h v x := fun b => e (hT.2 a b)
      simp [e, this]

theorem paired_mem {α β : Type} {F : α → β → Prop} {l₁ : List α} {l₂ : List β} (h : Paired F l₁ l₂) : ∀ a ∈ l₁, ∃ b ∈ l₂, F a b := by
  induction h with
  | nil => intro a m; cases m
  | cons q _ ih =>
    intro a m
    cases m with
    | head => exact ⟨_, .head _, q⟩
    | tail _ m => obtain ⟨b, hb, f⟩ := ih a m; exact ⟨b, .tail _ hb, f⟩

open Classical in
theorem items_at {α : Type} [DecidableEq α] {T : Ty α} (hT : EqOk T) {s : Shared} {x : α} {u : Value} {vs : List Value} {xs : List α} (hr : A.units ≤ 9500) (hp : Paired (T.is D s.heap) vs xs) (hu : T.is D s.heap u x) :
    ∀ y, y ∈ vs.toArray → SeqAt.EqAt A s y u (decide (T.is D s.heap y x)) := fun y hy => by
  obtain ⟨z, _, hz⟩ := paired_mem hp y (by simpa using hy)
  have := hT.1 hr hz hu
  by_cases e : z = x
  · subst e
    simpa [hz] using this
  · have ne : ¬ T.is D s.heap y x := fun b => e (hT.2 hz b)
    simpa [e, ne] using this

open Classical in
theorem cmp_in {α : Type} [DecidableEq α] {T : Ty α} (hT : EqOk T) {x : α} {xs : List α} {u v : Value} (hr : A.units ≤ 9000) (hu : T.is D s₁.heap u x) (hv : (tList T).is D s₁.heap v xs) : Has prog w A D s₁ (compareOp .In u v) tBool (xs.any fun y => decide (y = x)) := by
  obtain ⟨p, n, vs, rfl, _, hg, hp⟩ := hv
  refine Hs.of fun s' Q k l h => ?_
  have hp' := paired_mono (fun _ _ => T.mono (keeps_le k D)) hp
  refine SeqAt.in_listAt (fun y => decide (T.is D s'.heap y x)) (isList_of (keeps_get k hg)) (items_at (A := A.in1) hT (by show A.units + 1 ≤ 9500; omega) hp' (T.mono (keeps_le k D) hu)) ?_
  rw [List.any_toArray, any_items hT hp']
  exact h _ _ (keeps_refl _) rfl
open Classical in
theorem cmp_notin {α : Type} [DecidableEq α] {T : Ty α} (hT : EqOk T) {x : α} {xs : List α} {u v : Value} (hr : A.units ≤ 9000) (hu : T.is D s₁.heap u x) (hv : (tList T).is D s₁.heap v xs) : Has prog w A D s₁ (compareOp .NotIn u v) tBool (!xs.any fun y => decide (y = x)) := by
  obtain ⟨p, n, vs, rfl, _, hg, hp⟩ := hv
  refine Hs.of fun s' Q k l h => ?_
  have hp' := paired_mono (fun _ _ => T.mono (keeps_le k D)) hp
  refine SeqAt.notIn_listAt (fun y => decide (T.is D s'.heap y x)) (isList_of (keeps_get k hg)) (items_at (A := A.in1) hT (by show A.units + 1 ≤ 9500; omega) hp' (T.mono (keeps_le k D) hu)) ?_
  rw [List.any_toArray, any_items hT hp']
  exact h _ _ (keeps_refl _) rfl

-- lists put together
theorem has_addlist {l r : Expr} {pos : Pos} {α : Type} {T : Ty α} {xs ys : List α} (ha : Has prog w A D s (eval l env) (tList T) xs) (hb : Has prog w A D s (eval r env) (tList T) ys) (hsz : xs.length + ys.length ≤ 1000) :
    Has prog w A D s (eval (.BinOp l .Add r pos) env) (tList T) (xs ++ ys) :=
  hs_binop ha hb fun s₁ u v _ hu hv => by
    obtain ⟨p, n, vs, rfl, hd, hg, hp⟩ := hu
    obtain ⟨q, m, us, rfl, hd', hg', hp'⟩ := hv
    refine Hs.of fun s' Q k l h => ?_
    have hz : (List.toArray vs).size + (List.toArray us).size ≤ sizeLine := by
      rw [List.size_toArray, List.size_toArray, hp.length, hp'.length, sizeLine_eq]; omega
    refine P.add_list (keeps_get k hg) (keeps_get k hg') (h _ _ (keeps_push _ _) ⟨_, 0, vs ++ us, rfl, live_fresh l, by rw [Heap.get?_push_size _ rfl]; simp, ?_⟩) hz
    have kk := keeps_trans k (keeps_push s' { cls := .type "list", data := .seq (vs.toArray ++ us.toArray) })
    exact paired_append (paired_mono (fun _ _ => T.mono (keeps_le kk D)) hp) (paired_mono (fun _ _ => T.mono (keeps_le kk D)) hp')

-- built-in calls
variable {x : Str} {px pos : Pos}
theorem has_len {e : Expr} {α : Type} {T : Ty α} {xs : List α} (hf : Has prog w A D s (eval (.Name x px) env) tVal (.builtin "len")) (he : Has prog w A D s (eval e env) (tList T) xs) (hsz : xs.length ≤ 1000)
    (hp : starEach [e] env = (false, eval e env) :: starEach [] env := by rfl) (hst : ∀ e' ∈ [e], isStarred e' = false := by simp [isStarred]) : Has prog w A D s (eval (.Call (.Name x px) [e] [] pos) env) tInt xs.length :=
  hs_call hf (.inl fun _ h => nomatch h) (hsl_cons he hsl_nil hp) (fun s₁ vs k a => by
    obtain ⟨v, rfl, hv⟩ := a.one
    obtain ⟨p, n, vs, rfl, _, hg, hp⟩ := hv
    refine Hs.of fun s' Q k' l h => call_len_list (isList_of (keeps_get k' hg)) (by rw [List.size_toArray, hp.length]; omega) (h _ _ (keeps_toks _ _) ⟨s'.toks + 1, by rw [List.size_toArray, hp.length]⟩)) hst
theorem has_abs {e : Expr} {i : Int} (hf : Has prog w A D s (eval (.Name x px) env) tVal (.builtin "abs")) (he : Has prog w A D s (eval e env) tInt i)
    (hp : starEach [e] env = (false, eval e env) :: starEach [] env := by rfl) (hst : ∀ e' ∈ [e], isStarred e' = false := by simp [isStarred]) : Has prog w A D s (eval (.Call (.Name x px) [e] [] pos) env) tInt (if i < 0 then -i else i) :=
  hs_call hf (.inl fun _ h => nomatch h) (hsl_cons he hsl_nil hp) (fun s₁ vs k a => by
    obtain ⟨v, rfl, t, rfl⟩ := a.one
    exact Hs.of fun s' Q k' l h => call_abs_int fun u tk => h _ _ (keeps_toks _ _) ⟨u, rfl⟩) hst
theorem has_intb {e : Expr} {b : Bool} (hf : Has prog w A D s (eval (.Name x px) env) tVal (.type "int")) (he : Has prog w A D s (eval e env) tBool b)
    (hp : starEach [e] env = (false, eval e env) :: starEach [] env := by rfl) (hst : ∀ e' ∈ [e], isStarred e' = false := by simp [isStarred]) : Has prog w A D s (eval (.Call (.Name x px) [e] [] pos) env) tInt (if b then 1 else 0) :=
  hs_call hf (.inl fun _ h => nomatch h) (hsl_cons he hsl_nil hp) (fun s₁ vs k a => by
    obtain ⟨v, rfl, rfl⟩ := a.one
    exact Hs.of fun s' Q k' l h => call_int_bool (h _ _ (keeps_toks _ _) ⟨_, rfl⟩)) hst

theorem keeps_of_heap {s' : Shared} {h' : Heap} {tk : Nat} (hk : ∀ b o, s'.heap.get? b = some o → h'.get? b = some o) : Keeps s' { s' with heap := h', toks := tk } := ⟨h', tk, rfl, hk⟩

theorem has_min2 {a b : Expr} {i j : Int} (hh : A.handled = none) (hf : Has prog w A D s (eval (.Name x px) env) tVal (.builtin "min")) (ha : Has prog w A D s (eval a env) tInt i) (hb : Has prog w A D s (eval b env) tInt j)
    (hp : starEach [a, b] env = (false, eval a env) :: starEach [b] env := by rfl) (hp' : starEach [b] env = (false, eval b env) :: starEach [] env := by rfl) (hst : ∀ e' ∈ [a, b], isStarred e' = false := by simp [isStarred]) :
    Has prog w A D s (eval (.Call (.Name x px) [a, b] [] pos) env) tInt (if j < i then j else i) :=
  hs_call hf (.inl fun _ h => nomatch h) (hsl_cons ha (hsl_cons hb hsl_nil hp') hp) (fun s₁ vs k a => by
    obtain ⟨u, v, rfl, ⟨t, rfl⟩, ⟨t', rfl⟩⟩ := a.two
    exact Hs.of fun s' Q k' l h => min_two_ints hh fun h' tk hk => h _ _ (keeps_of_heap hk) (by split <;> exact ⟨_, rfl⟩)) hst
theorem has_max2 {a b : Expr} {i j : Int} (hh : A.handled = none) (hf : Has prog w A D s (eval (.Name x px) env) tVal (.builtin "max")) (ha : Has prog w A D s (eval a env) tInt i) (hb : Has prog w A D s (eval b env) tInt j)
    (hp : starEach [a, b] env = (false, eval a env) :: starEach [b] env := by rfl) (hp' : starEach [b] env = (false, eval b env) :: starEach [] env := by rfl) (hst : ∀ e' ∈ [a, b], isStarred e' = false := by simp [isStarred]) :
    Has prog w A D s (eval (.Call (.Name x px) [a, b] [] pos) env) tInt (if j > i then j else i) :=
  hs_call hf (.inl fun _ h => nomatch h) (hsl_cons ha (hsl_cons hb hsl_nil hp') hp) (fun s₁ vs k a => by
    obtain ⟨u, v, rfl, ⟨t, rfl⟩, ⟨t', rfl⟩⟩ := a.two
    exact Hs.of fun s' Q k' l h => max_two_ints hh fun h' tk hk => h _ _ (keeps_of_heap hk) (by split <;> exact ⟨_, rfl⟩)) hst
end
end Mine

end
section

open PySem PySem.W PyProof.Rows PySem.Calls
namespace Mine

/-- a step that touches the objects of I alone -/
def StepI (I : List Addr) (s s' : Shared) : Prop := ∃ h' tk, s' = { s with heap := h', toks := tk } ∧ ∀ b o, b ∉ I → s.heap.get? b = some o → h'.get? b = some o
theorem stepI_get {I : List Addr} {s s' : Shared} (a : StepI I s s') {b : Addr} {o : Obj} (n : b ∉ I) (e : s.heap.get? b = some o) : s'.heap.get? b = some o := by
  obtain ⟨h, t, rfl, ha⟩ := a; exact ha b o n e
theorem stepI_same {a : Addr} {I : List Addr} {s : Shared} {h' : Heap} {tk : Nat} (hs : Heap.SameBut a s.heap h') (m : a ∈ I) : StepI I s { s with heap := h', toks := tk } :=
  ⟨h', tk, rfl, fun b o n e => (hs.2 b fun q => n (q ▸ m)).trans e⟩
theorem stepI_ext {a : Addr} {I : List Addr} {s : Shared} {h' : Heap} {tk : Nat} (hs : Heap.ExtBut a s.heap h') (m : a ∈ I) : StepI I s { s with heap := h', toks := tk } :=
  ⟨h', tk, rfl, fun b o n e => hs b o (fun q => n (q ▸ m)) e⟩

/-- an iterator: what it yet gives, and what a draw does -/
structure SrcF (prog : Program) (w : World) (A : Around) (D : Addr → Prop) {α : Type} (T : Ty α) (tg : Expr) (it : Value) (I : List Addr) (St : List α → Heap → Prop) : Prop where
  draw : ∀ {x : α} {xs : List α} {s : Shared} {Q : Value → Shared → Prop} {E : Value → Shared → Prop}, St (x :: xs) s.heap → Live D s.heap → (∀ v s', StepI I s s' → T.is D s'.heap v x → St xs s'.heap → Q v s') →
    wpAny (model prog w) A (pyNext it) (fun r s₁ => ∃ v, r = some v ∧ wpAny (model prog w) A (letOwnedTupleGo tg it v) (fun _ s₂ => Q v s₂) E s₁) E s
  fin : ∀ {s : Shared} {Q : Shared → Prop} {E : Value → Shared → Prop}, St [] s.heap → (∀ s', StepI I s s' → Q s') → wpAny (model prog w) A (pyNext it) (fun r s₁ => r = none ∧ Q s₁) E s
  frame : ∀ {xs : List α} {h h' : Heap}, St xs h → Le D h h' → (∀ a ∈ I, ∀ o, h.get? a = some o → h'.get? a = some o) → St xs h'
  here : ∀ {xs : List α} {h : Heap}, St xs h → ∀ a ∈ I, ∃ o vs, h.get? a = some o ∧ o.data = .fields vs
/-- such an iterator, one that «iter» hands back as it is -/
structure Src (prog : Program) (w : World) (A : Around) (D : Addr → Prop) {α : Type} (T : Ty α) (tg : Expr) (it : Value) (I : List Addr) (St : List α → Heap → Prop) : Prop extends SrcF prog w A D T tg it I St where
  self : ∀ {xs : List α} {s : Shared} {Q : Value → Shared → Prop} {E : Value → Shared → Prop}, St xs s.heap → Q it s → wpAny (model prog w) A (pyIter it) Q E s

theorem letOwned_list {prog : Program} {w : World} {A : Around} {s : Shared} {E : Value → Shared → Prop} {tg : Expr} {it : Addr} {v : Value} {Q : Unit → Shared → Prop} {n : String} {vs : Array Value} {o : Obj}
    (ho : s.heap.get? it = some o) (hc : o.cls = .type n) (hd : o.data = .fields vs) (hn : (["enumerate", "zip", "dict_itemiterator", "dict_reverseitemiterator", "odict_iterator", "itertools.zip_longest", "itertools.pairwise"] : List String).contains n = false)
    (h : Q () s) : wpAny (model prog w) A (letOwnedTupleGo tg (.ref it) v) Q E s := by
  have key : ∀ a, wpAny (model prog w) A (do
      let o ← load it
      match o.cls, o.data with
      | .type n, .fields vs =>
        if ["enumerate", "zip", "dict_itemiterator", "dict_reverseitemiterator", "odict_iterator", "itertools.zip_longest", "itertools.pairwise"].contains n && vs[0]? == some (rawInt a) then
          rule "for.unpacks-the-owned-tuple"
          updateField it 0 .none
      | _, _ => pure ()) Q E s := fun a => by
    refine wpAny_bind (wpAny_load ho ?_)
    rw [hc, hd]
    dsimp only
    rw [hn, Bool.false_and]
    exact wpAny_pure h
  unfold letOwnedTupleGo
  cases tg <;> first | exact wpAny_pure h | (cases v <;> first | exact wpAny_pure h | exact key _)

section
variable {prog : Program} {w : World} {A : Around} {D : Addr → Prop} {s s₁ s₀ : Shared} {g : Heap} {env : Env} {ρ : Rho} {mg mb : Str → Option Value}

/-- over a list that stands -/
def StList {α : Type} (T : Ty α) (D : Addr → Prop) (it : Addr) (xs : List α) (h : Heap) : Prop :=
  ∃ p n vs i, h.IsListIter it p i ∧ ¬ D p ∧ h.get? p = some (lstObj (List.toArray vs) n) ∧ Paired (T.is D h) (vs.drop i) xs

theorem src_list {α : Type} {T : Ty α} (hh : A.handled = none) (tg : Expr) (it : Addr) : Src prog w A D T tg (.ref it) [it] (StList T D it) where
  draw := fun {x xs s Q E} st l q => by
    obtain ⟨p, n, vs, i, hi, hd, hg, hp⟩ := st
    have hx : ∃ u, vs[i]? = some u ∧ T.is D s.heap u x := by
      obtain ⟨u, hu, hu'⟩ := paired_get hp 0 x rfl
      exact ⟨u, by simpa using hu, hu'⟩
    obtain ⟨u, hu, hu'⟩ := hx
    refine wpAny_pyNext_list_item hi (isList_of hg) (x := u) (by simpa using hu) fun h' hi' hs => ⟨u, rfl, ?_⟩
    have hne : p ≠ it := by
      rintro rfl
      obtain ⟨o, ho, _, hd'⟩ := hi
      rw [hg] at ho; cases ho; cases hd'
    have hle : Le D s.heap h' := le_of_sameBut hs (.inr fun o e f => by
      obtain ⟨o', ho', _, hd'⟩ := hi
      rw [e] at ho'; cases ho'
      unfold Firm at f; rw [hd'] at f; exact f)
    obtain ⟨o2, ho2, hc2, hd2⟩ := id hi'
    refine letOwned_list ho2 hc2 hd2 (by decide) (q u _ (stepI_same hs (.head _)) (T.mono hle hu') ⟨p, n, vs, i + 1, hi', hd, (hs.2 p hne).trans hg, ?_⟩)
    have := paired_drop hp 1
    rw [List.drop_drop] at this
    exact paired_mono (fun _ _ => T.mono hle) this
  fin := fun {s Q E} st q => by
    obtain ⟨p, n, vs, i, hi, hd, hg, hp⟩ := st
    have hl := hp.length
    refine wpAny_pyNext_list_end hh hi (isList_of hg) ?_ fun h' hs => ⟨rfl, q _ (stepI_ext hs (.head _))⟩
    simp only [List.length_drop, List.length_nil] at hl
    simp; omega
  frame := fun {xs h h'} st le keep => by
    obtain ⟨p, n, vs, i, ⟨o, ho, hc, hd'⟩, hd, hg, hp⟩ := st
    exact ⟨p, n, vs, i, ⟨o, keep _ (.head _) _ ho, hc, hd'⟩, hd, le _ _ hd (firm_lst _ _) hg, paired_mono (fun _ _ => T.mono le) hp⟩
  here := fun st a m => by
    obtain ⟨p, n, vs, i, ⟨o, ho, hc, hd'⟩, _⟩ := st
    cases m with
    | head => exact ⟨o, _, ho, hd'⟩
    | tail _ m => cases m
  self := fun st q => by
    obtain ⟨p, n, vs, i, hi, _⟩ := st
    exact wpAny_pyIter_listiter hi q

/-- over a range by ones -/
def rangeL (a : Int) : Nat → List Int
  | 0 => []
  | n + 1 => a :: rangeL (a + 1) n
def StRange (it : Addr) (xs : List Int) (h : Heap) : Prop := ∃ a n, IsRangeIter h it a (n : Nat) 1 ∧ xs = rangeL a n

theorem src_range (hh : A.handled = none) (tg : Expr) (it : Addr) : Src prog w A D tInt tg (.ref it) [it] (StRange it) where
  draw := fun {x xs s Q E} st l q => by
    obtain ⟨a, n, hi, hx⟩ := st
    cases n with
    | zero => cases hx
    | succ n =>
      obtain ⟨rfl, rfl⟩ := List.cons.inj hx
      refine wpAny_pyNext_range_item hi (by omega) fun h' hi' hs => ⟨_, rfl, ?_⟩
      have e : ((n + 1 : Nat) : Int) - 1 = (n : Nat) := by omega
      rw [e] at hi'
      exact letOwned_list hi' rfl rfl (by decide) (q _ _ (stepI_same hs (.head _)) ⟨_, rfl⟩ ⟨_, n, hi', rfl⟩)
  fin := fun {s Q E} st q => by
    obtain ⟨a, n, hi, hx⟩ := st
    cases n with
    | succ n => cases hx
    | zero => exact wpAny_pyNext_range_end hh hi (by simp) fun h' hs => ⟨rfl, q _ (stepI_ext hs (.head _))⟩
  frame := fun {xs h h'} st le keep => by
    obtain ⟨a, n, hi, hx⟩ := st
    exact ⟨a, n, keep _ (.head _) _ hi, hx⟩
  here := fun st a m => by
    obtain ⟨b, n, hi, hx⟩ := st
    cases m with
    | head => exact ⟨_, _, hi, rfl⟩
    | tail _ m => cases m
  self := fun st q => by
    obtain ⟨b, n, hi, hx⟩ := st
    exact wpAny_pyIter_rangeiter hi q

/-- over enumerate of a list that stands -/
def enumL {α : Type} : Int → List α → List (Int × α)
  | _, [] => []
  | i, x :: xs => (i, x) :: enumL (i + 1) xs
def StEnum {α : Type} (T : Ty α) (D : Addr → Prop) (e it : Addr) (ps : List (Int × α)) (h : Heap) : Prop :=
  e ≠ it ∧ ∃ p n vs i old xs, IsEnum h e it (i : Nat) old ∧ h.IsListIter it p i ∧ ¬ D p ∧ h.get? p = some (lstObj (List.toArray vs) n) ∧ Paired (T.is D h) (vs.drop i) xs ∧ ps = enumL i xs

theorem src_enum {α : Type} {T : Ty α} (hh : A.handled = none) (els : List Expr) (k : Nat) (pos : Pos) (e it : Addr) (hI : ¬ D e ∧ ¬ D it) : Src prog w A D (tPair tInt T) (.Tuple els k pos) (.ref e) [e, it] (StEnum T D e it) where
  draw := fun {x ps s Q E} st l q => by
    obtain ⟨hne, p, n, vs, i, old, xs, he, hi, hd, hg, hp, hx⟩ := st
    cases xs with
    | nil => cases hx
    | cons y ys =>
      obtain ⟨rfl, rfl⟩ := List.cons.inj hx
      have hy : ∃ u, vs[i]? = some u ∧ T.is D s.heap u y := by
        obtain ⟨u, hu, hu'⟩ := paired_get hp 0 y rfl
        exact ⟨u, by simpa using hu, hu'⟩
      obtain ⟨u, hu, hu'⟩ := hy
      have hpe : p ≠ e := by
        rintro rfl
        exact absurd (hg.symm.trans he) (by simp)
      have hpi : p ≠ it := by
        rintro rfl
        obtain ⟨o, ho, _, hd'⟩ := hi
        rw [hg] at ho; cases ho; cases hd'
      refine wpAny_pyNext_enum_item he hi (isList_of hg) (x := u) (by simpa using hu) hne fun h' he' hi' ht hz hk => ⟨_, rfl, ?_⟩
      refine wpAny_letOwnedTupleGo_enum he' fun h2 he2 hs2 => ?_
      have old' : ∀ b o, b ∉ [e, it] → s.heap.get? b = some o → h2.get? b = some o := fun b o nb eb =>
        (hs2.2 b fun z => nb (z ▸ .head _)).trans (hk b o (fun z => nb (z ▸ .head _)) (fun z => nb (z ▸ .tail _ (.head _))) eb)
      have hle : Le D s.heap h2 := fun b o nd f eb => old' b o (fun m => by
        cases m with
        | head => rw [he] at eb; cases eb; exact f
        | tail _ m => cases m with
          | head =>
            obtain ⟨o', ho', _, hd'⟩ := hi
            rw [eb] at ho'; cases ho'
            unfold Firm at f; rw [hd'] at f; exact f
          | tail _ m => cases m) eb
      have hse : s.heap.objs.size ≠ e := fun z => Nat.lt_irrefl _ (z ▸ Heap.lt_size he)
      have ht2 : h2.get? s.heap.objs.size = some (tupObj #[.int i s.toks, u] 0) := (hs2.2 _ hse).trans ht
      refine q _ _ ⟨h2, _, rfl, old'⟩ ⟨_, 0, _, _, rfl, live_fresh l, ht2, ⟨_, rfl⟩, T.mono hle hu'⟩ ⟨hne, p, n, vs, i + 1, u, ys, he2, hi'.at fun o eo => (hs2.2 it (Ne.symm hne)).trans eo, hd, ?_, ?_, rfl⟩
      · exact old' p _ (fun m => by
          cases m with
          | head => exact hpe rfl
          | tail _ m => cases m with
            | head => exact hpi rfl
            | tail _ m => cases m) hg
      · have := paired_drop hp 1
        rw [List.drop_drop] at this
        exact paired_mono (fun _ _ => T.mono hle) this
  fin := fun {s Q E} st q => by
    obtain ⟨hne, p, n, vs, i, old, xs, he, hi, hd, hg, hp, hx⟩ := st
    cases xs with
    | cons y ys => cases hx
    | nil =>
      have hl := hp.length
      refine wpAny_pyNext_enum_end hh he hi (isList_of hg) ?_ fun h' hs => ⟨rfl, q _ (stepI_ext hs (.tail _ (.head _)))⟩
      simp only [List.length_drop, List.length_nil] at hl
      simp; omega
  frame := fun {xs h h'} st le keep => by
    obtain ⟨hne, p, n, vs, i, old, ys, he, ⟨o, ho, hc, hd'⟩, hd, hg, hp, hx⟩ := st
    exact ⟨hne, p, n, vs, i, old, ys, keep _ (.head _) _ he, ⟨o, keep _ (.tail _ (.head _)) _ ho, hc, hd'⟩, hd, le _ _ hd (firm_lst _ _) hg, paired_mono (fun _ _ => T.mono le) hp, hx⟩
  here := fun st a m => by
    obtain ⟨hne, p, n, vs, i, old, ys, he, ⟨o, ho, hc, hd'⟩, _⟩ := st
    cases m with
    | head => exact ⟨_, _, he, rfl⟩
    | tail _ m => cases m with
      | head => exact ⟨o, _, ho, hd'⟩
      | tail _ m => cases m
  self := fun st q => by
    obtain ⟨hne, p, n, vs, i, old, ys, he, _⟩ := st
    exact wpAny_pyIter_enum he q

/-- what «iter(e)» gives: a source -/
def Iters (prog : Program) (w : World) (A : Around) (D : Addr → Prop) (s : Shared) {α : Type} (e : Expr) (env : Env) (T : Ty α) (tg : Expr) (xs : List α) : Prop :=
  ∀ s', Keeps s s' → Live D s'.heap → wpAny (model prog w) A (eval e env) (fun v s₁ => wpAny (model prog w) A (pyIter v) (fun it s₂ => Keeps s' s₂ ∧ ∃ I, (∀ a ∈ I, s'.heap.get? a = none) ∧
    ∀ D' : Addr → Prop, (∀ a o, s₂.heap.get? a = some o → D' a → D a) → ∃ St, Src prog w A D' T tg it I St ∧ St xs s₂.heap) NE s₁) NE s'

/-- the same for a loop's own use -/
def ItersF (prog : Program) (w : World) (A : Around) (D : Addr → Prop) (s : Shared) {α : Type} (e : Expr) (env : Env) (T : Ty α) (tg : Expr) (xs : List α) : Prop :=
  ∀ s', Keeps s s' → Live D s'.heap → wpAny (model prog w) A (eval e env) (fun v s₁ => wpAny (model prog w) A (pyIter v) (fun it s₂ => Keeps s' s₂ ∧ ∃ I, (∀ a ∈ I, s'.heap.get? a = none) ∧
    ∀ D' : Addr → Prop, (∀ a o, s₂.heap.get? a = some o → D' a → D a) → ∃ St, SrcF prog w A D' T tg it I St ∧ St xs s₂.heap) NE s₁) NE s'
theorem Iters.f {e : Expr} {α : Type} {T : Ty α} {xs : List α} {tg : Expr} (h : Iters prog w A D s e env T tg xs) : ItersF prog w A D s e env T tg xs := fun s' k l =>
  wpAny_mono (h s' k l) (fun v s₁ q => wpAny_mono q (fun it s₂ q => ⟨q.1, q.2.choose, q.2.choose_spec.1, fun D' hD' => let ⟨St, S, st⟩ := q.2.choose_spec.2 D' hD'; ⟨St, S.toSrcF, st⟩⟩) fun _ _ e => e) fun _ _ e => e

theorem none_of_keeps (k : Keeps s s₁) : s.heap.get? s₁.heap.objs.size = none := by
  cases e : s.heap.get? s₁.heap.objs.size with
  | none => rfl
  | some o => exact absurd (Heap.lt_size (keeps_get k e)) (Nat.lt_irrefl _)

theorem none_above (k : Keeps s s₁) {a : Addr} (h : s₁.heap.objs.size ≤ a) : s.heap.get? a = none := by
  cases e : s.heap.get? a with
  | none => rfl
  | some o => exact absurd (Heap.lt_size (keeps_get k e)) (Nat.not_lt.mpr h)

theorem iters_list {e : Expr} {α : Type} {T : Ty α} {xs : List α} {tg : Expr} (hh : A.handled = none) (he : Has prog w A D s (eval e env) (tList T) xs) : Iters prog w A D s e env T tg xs := fun s' k l =>
  wpAny_mono (he s' k l) (fun v s₁ a => by
    obtain ⟨ka, p, n, vs, rfl, hd, hg, hp⟩ := a
    refine wpAny_pyIter_list (isList_of hg) ⟨keeps_trans ka (keeps_push _ _), [_], fun a m => ?_, fun D' hD' => ⟨_, src_list hh tg _, ⟨p, n, vs, 0, ⟨_, Heap.get?_push_size _ rfl, rfl, rfl⟩, fun q => hd (hD' _ _ (Heap.get?_push_of_some _ hg) q), Heap.get?_push_of_some _ hg, ?_⟩⟩⟩
    · cases m with
      | head => exact none_of_keeps ka
      | tail _ m => cases m
    · exact paired_mono (fun _ _ q => T.wide hD' (T.mono (keeps_le (keeps_push s₁ _) D) q)) hp) fun _ _ e => e

theorem size_range (b : Int) (hb : 0 ≤ b) : Builtin.Range.rangeSize 0 b 1 = b := by
  unfold Builtin.Range.rangeSize
  simp only [show ((1 : Int) > 0) = True from eq_true (by decide), if_true]
  split
  · simp
  · omega
theorem size_range2 (a b : Int) (hb : a ≤ b) : Builtin.Range.rangeSize a b 1 = b - a := by
  unfold Builtin.Range.rangeSize
  simp only [show ((1 : Int) > 0) = True from eq_true (by decide), if_true]
  split
  · simp
  · omega

theorem small_range (a b : Int) (h : a ≤ b) (ha : 0 ≤ a) (hb : b ≤ 100000) : Builtin.Range.small a b 1 = true := by
  unfold Builtin.Range.small
  rw [size_range2 a b h]
  unfold Builtin.Range.rangeFitsLong
  simp only [Bool.and_eq_true, decide_eq_true_eq, Bool.or_eq_true]
  refine ⟨⟨⟨⟨⟨by omega, by omega⟩, ⟨by omega, by omega⟩⟩, ⟨by omega, by omega⟩⟩, ⟨by omega, by omega⟩⟩, .inr ?_⟩
  rw [if_pos (by decide)]
  simp only [Bool.and_eq_true, decide_eq_true_eq]
  exact ⟨by omega, by omega⟩

variable {x : Str} {px pos : Pos}
/-- range(b) -/
theorem iters_range1 {e : Expr} {b : Int} {tg : Expr} (hh : A.handled = none) (hf : Has prog w A D s (eval (.Name x px) env) tVal (.type "range")) (he : Has prog w A D s (eval e env) tInt b) (hb : 0 ≤ b) (hb2 : b ≤ 100000)
    (hp : starEach [e] env = (false, eval e env) :: starEach [] env := by rfl) (hst : ∀ e' ∈ [e], isStarred e' = false := by simp [isStarred]) :
    Iters prog w A D s (.Call (.Name x px) [e] [] pos) env tInt tg (rangeL 0 b.toNat) := fun s' k l => by
  have hc : Hs prog w A D s (eval (.Call (.Name x px) [e] [] pos) env) fun h v => ∃ r t u t', v = .ref r ∧ IsRange h r 0 b 1 t u t' :=
    hs_call hf (.inl fun _ h => nomatch h) (hsl_cons he hsl_nil hp) (fun s₁ vs k a => by
      obtain ⟨v, rfl, t, rfl⟩ := a.one
      exact Hs.of fun s' Q k' l h => call_range_1 (h _ _ (keeps_push_toks _ _ _) ⟨_, _, _, _, rfl, Heap.get?_push_size _ rfl⟩)) hst
  refine wpAny_mono (hc s' k l) (fun v s₁ a => ?_) fun _ _ e => e
  obtain ⟨ka, r, t, u, t', rfl, hr⟩ := a
  refine wpAny_pyIter_range hr (small_range 0 b hb (by decide) hb2) ⟨keeps_trans ka (keeps_push _ _), [_], fun a m => ?_, fun D' hD' => ⟨_, src_range hh tg _, ⟨0, b.toNat, ?_, rfl⟩⟩⟩
  · cases m with
    | head => exact none_of_keeps ka
    | tail _ m => cases m
  · have e : Builtin.Range.rangeSize 0 b 1 = (b.toNat : Nat) := by rw [size_range b hb]; omega
    rw [e]
    exact Heap.get?_push_size _ rfl
/-- range(a, b) -/
theorem iters_range2 {ea eb : Expr} {a b : Int} {tg : Expr} (hh : A.handled = none) (hf : Has prog w A D s (eval (.Name x px) env) tVal (.type "range")) (ha : Has prog w A D s (eval ea env) tInt a) (hb : Has prog w A D s (eval eb env) tInt b)
    (h0 : 0 ≤ a) (hab : a ≤ b) (hb2 : b ≤ 100000)
    (hp : starEach [ea, eb] env = (false, eval ea env) :: starEach [eb] env := by rfl) (hp' : starEach [eb] env = (false, eval eb env) :: starEach [] env := by rfl) (hst : ∀ e' ∈ [ea, eb], isStarred e' = false := by simp [isStarred]) :
    Iters prog w A D s (.Call (.Name x px) [ea, eb] [] pos) env tInt tg (rangeL a (b - a).toNat) := fun s' k l => by
  have hc : Hs prog w A D s (eval (.Call (.Name x px) [ea, eb] [] pos) env) fun h v => ∃ r t u t', v = .ref r ∧ IsRange h r a b 1 t u t' :=
    hs_call hf (.inl fun _ h => nomatch h) (hsl_cons ha (hsl_cons hb hsl_nil hp') hp) (fun s₁ vs k a => by
      obtain ⟨u, v, rfl, ⟨t, rfl⟩, ⟨t', rfl⟩⟩ := a.two
      exact Hs.of fun s' Q k' l h => call_range_2 (h _ _ (keeps_push_toks _ _ _) ⟨_, _, _, _, rfl, Heap.get?_push_size _ rfl⟩)) hst
  refine wpAny_mono (hc s' k l) (fun v s₁ q => ?_) fun _ _ e => e
  obtain ⟨ka, r, t, u, t', rfl, hr⟩ := q
  refine wpAny_pyIter_range hr (small_range a b hab h0 hb2) ⟨keeps_trans ka (keeps_push _ _), [_], fun a m => ?_, fun D' hD' => ⟨_, src_range hh tg _, ⟨a, (b - a).toNat, ?_, rfl⟩⟩⟩
  · cases m with
    | head => exact none_of_keeps ka
    | tail _ m => cases m
  · have e : Builtin.Range.rangeSize a b 1 = ((b - a).toNat : Nat) := by rw [size_range2 a b hab]; omega
    rw [e]
    exact Heap.get?_push_size _ rfl
/-- enumerate(xs) -/
theorem iters_enum {e : Expr} {α : Type} {T : Ty α} {xs : List α} {els : List Expr} {kk : Nat} {pt : Pos} (hh : A.handled = none) (hf : Has prog w A D s (eval (.Name x px) env) tVal (.type "enumerate")) (he : Has prog w A D s (eval e env) (tList T) xs)
    (hp : starEach [e] env = (false, eval e env) :: starEach [] env := by rfl) (hst : ∀ e' ∈ [e], isStarred e' = false := by simp [isStarred]) :
    Iters prog w A D s (.Call (.Name x px) [e] [] pos) env (tPair tInt T) (.Tuple els kk pt) (enumL 0 xs) := fun s' k l => by
  have hc : Hs prog w A D s' (eval (.Call (.Name x px) [e] [] pos) env) fun h v => ∃ e' it, v = .ref e' ∧ s'.heap.get? e' = none ∧ s'.heap.get? it = none ∧ StEnum T D e' it (enumL 0 xs) h :=
    hs_call (hf.up k) (.inl fun _ h => nomatch h) (hsl_cons (he.up k) hsl_nil hp) (fun s₁ vs ka a => by
      obtain ⟨v, rfl, p, n, us, rfl, hd, hg, hq⟩ := a.one
      refine Hs.of fun s₂ Q k₂ l₂ h => ?_
      have hg₂ := keeps_get k₂ hg
      refine call_enumerate_list (isList_of hg₂) fun h' he' hi' hz hk => ?_
      have kk : Keeps s₂ { s₂ with heap := h' } := ⟨h', s₂.toks, rfl, hk⟩
      have k02 := keeps_trans ka k₂
      refine h _ _ kk ⟨_, _, rfl, none_above k02 (Nat.le_succ _), none_above k02 (Nat.le_refl _), Nat.succ_ne_self _, p, n, us, 0, _, xs, he', hi', hd, hk _ _ hg₂, ?_, rfl⟩
      exact paired_mono (fun _ _ => T.mono (keeps_le (keeps_trans k₂ kk) D)) hq) hst
  refine wpAny_mono (hc s' (keeps_refl _) l) (fun v s₁ q => ?_) fun _ _ e => e
  obtain ⟨ka, e', it, rfl, n1, n2, st⟩ := q
  obtain ⟨hne, p, n, us, i, old, ys, he', hi', hd, hg, hq, hx⟩ := id st
  obtain ⟨oi, hoi, _⟩ := id hi'
  refine wpAny_pyIter_enum he' ⟨ka, [e', it], fun a m => ?_, fun D' hD' => ⟨_, src_enum hh els kk pt e' it ⟨fun q => live_none l n1 (hD' _ _ he' q), fun q => live_none l n2 (hD' _ _ hoi q)⟩,
    ⟨hne, p, n, us, i, old, ys, he', hi', fun q => hd (hD' _ _ hg q), hg, paired_mono (fun _ _ => T.wide hD') hq, hx⟩⟩⟩
  cases m with
  | head => exact n1
  | tail _ m => cases m with
    | head => exact n2
    | tail _ m => cases m
end
end Mine

end
section

open PySem PySem.W PyProof.Rows PySem.Calls
namespace Mine
section
variable {prog : Program} {w : World} {A : Around} {D : Addr → Prop} {s s₁ s₂ s₀ : Shared} {g : Heap} {env : Env} {ρ : Rho} {mg mb : Str → Option Value}

/-- lists and dicts but the frame's own stand -/
def Oth (env : Env) (s s' : Shared) : Prop := ∀ a o, s.heap.get? a = some o → a ≠ env.locals → Firm o → s'.heap.get? a = some o
theorem Oth.trans {s₂ : Shared} (a : Oth env s s₁) (b : Oth env s₁ s₂) : Oth env s s₂ := fun c o e n f => b c o (a c o e n f) n f
theorem oth_keeps (k : Keeps s s₁) : Oth env s s₁ := fun _ _ e _ _ => keeps_get k e
theorem oth_others (o : Others D env s s₁) : Oth env s s₁ := fun a ob e n f => o.still a ob e n fun v q => by unfold Firm at f; rw [q] at f; exact f

/-- a source's own objects: made since the frame began, no data -/
structure ItOk (s₀ s : Shared) (D : Addr → Prop) (I : List Addr) : Prop where
  new : ∀ a ∈ I, s₀.heap.get? a = none
  apart : ∀ a ∈ I, ¬ D a
  here : ∀ a ∈ I, ∃ o vs, s.heap.get? a = some o ∧ o.data = .fields vs

theorem Ex.stepI {I : List Addr} (X : Ex g s₀ D env s ρ) (O : ItOk s₀ s D I) (st : StepI I s s₁) : Ex g s₀ D env s₁ ρ ∧ Oth env s s₁ := by
  have notI : ∀ {a : Addr} {o : Obj}, s.heap.get? a = some o → (∀ vs, o.data ≠ .fields vs) → a ∉ I := fun {a o} e n m => by
    obtain ⟨o', vs, e', d'⟩ := O.here a m
    rw [e] at e'; cases e'
    exact n vs d'
  have keep : ∀ {a : Addr} {o : Obj}, s.heap.get? a = some o → (∀ vs, o.data ≠ .fields vs) → s₁.heap.get? a = some o := fun {a o} e n => stepI_get st (notI e n) e
  have hns : ∀ {a : Addr} {m : Str → Option Value}, s.heap.Ns a m → s₁.heap.Ns a m := fun {a m} h => by
    obtain ⟨o, es, ep, e, d, r⟩ := h
    exact ⟨o, es, ep, keep e fun vs q => (by rw [d] at q; cases q), d, r⟩
  have hcell : ∀ {a : Addr} {v : Option Value}, s.heap.IsCell a v → s₁.heap.IsCell a v := fun {a v} h => by
    obtain ⟨o, e, d⟩ := h
    exact ⟨o, keep e fun vs q => (by rw [d] at q; cases q), d⟩
  have firm : ∀ {a : Addr} {o : Obj}, s.heap.get? a = some o → Firm o → s₁.heap.get? a = some o := fun {a o} e f => keep e fun vs q => by unfold Firm at f; rw [q] at f; exact f
  obtain ⟨hS, hK, hL, F⟩ := X
  refine ⟨⟨hS, ?_, ?_, ⟨F.kind, let ⟨m, h⟩ := F.ns; ⟨m, hns h⟩, F.newL, F.volL, fun x c e => let ⟨v, h⟩ := F.cells x c e; ⟨v, hcell h⟩, F.apart, F.cellOk, F.glob, fun x e h => ?_⟩⟩, fun a o e n f => firm e f⟩
  · obtain ⟨h0, t0, rfl, hk0⟩ := hK
    obtain ⟨h1, t1, rfl, hk1⟩ := st
    exact ⟨h1, t1, rfl, fun b o e => hk1 b o (fun m => by rw [O.new b m] at e; cases e) (hk0 b o e)⟩
  · intro a d
    obtain ⟨o, e⟩ := hL a d
    exact ⟨o, stepI_get st (fun m => O.apart a m d) e⟩
  · obtain ⟨v, hn, ht⟩ := F.names x e h
    refine ⟨v, ?_, e.T.mono (fun b o _ f q => firm q f) ht⟩
    rcases hn with ⟨a, m, hn, hm⟩ | ⟨a, c, hc, hv⟩
    · exact .inl ⟨a, m, hns hn, hm⟩
    · exact .inr ⟨a, c, hc, hcell hv⟩

/-- a target takes a value -/
def Asg (prog : Program) (w : World) (A : Around) (g : Heap) (s₀ : Shared) (D : Addr → Prop) (env : Env) {α : Type} (tg : Expr) (T : Ty α) (bnd : Rho → α → Rho) : Prop :=
  ∀ {s : Shared} {ρ : Rho} {v : Value} {x : α} {Q : Unit → Shared → Prop} {E : Value → Shared → Prop}, Ex g s₀ D env s ρ → T.is D s.heap v x → (∀ s', Ex g s₀ D env s' (bnd ρ x) → Others D env s s' → Q () s') → wpAny (model prog w) A (assign tg env v) Q E s

theorem asg_name {n : Str} {p : Pos} {α : Type} {T : Ty α} (o : Own s₀ env n) : Asg prog w A g s₀ D env (.Name n p) T fun ρ x => upd ρ n ⟨T, x⟩ :=
  fun X hv q => wpAny_assign_Name (X.store o hv q)

theorem asg_pair {a b : Str} {pa pb p : Pos} {k : Nat} {α β : Type} {T : Ty α} {U : Ty β} (hh : A.handled = none) (oa : Own s₀ env a) (ob : Own s₀ env b) :
    Asg prog w A g s₀ D env (.Tuple [.Name a pa, .Name b pb] k p) (tPair T U) fun ρ x => upd (upd ρ a ⟨T, x.1⟩) b ⟨U, x.2⟩ := by
  intro s ρ v x Q E X hv q
  obtain ⟨t, n, u, y, rfl, hd, hg, hu, hy⟩ := hv
  refine wpAny_assign_Tuple hh (isTuple_of hg) rfl rfl fun h' hs => ?_
  have kk : Keeps s { s with heap := h' } := ⟨h', s.toks, rfl, fun b o e => hs b o (fun z => Nat.lt_irrefl _ (z ▸ Heap.lt_size e)) e⟩
  show wpAny _ _ (assignInOrder [assign (.Name a pa) env, assign (.Name b pb) env] [u, y]) _ _ _
  refine wpAny_assignInOrder_more (wpAny_assign_Name ((X.up kk).store oa (T.mono (keeps_le kk D) hu) fun s₂ X₂ o₂ => wpAny_assignInOrder_more (wpAny_assign_Name (X₂.store ob (U.mono o₂.calm.le (U.mono (keeps_le kk D) hy)) fun s₃ X₃ o₃ =>
    wpAny_assignInOrder_none (q s₃ X₃ (others_trans (others_keeps kk) (others_trans o₂ o₃)))))))

theorem noted_ne {R : Value → Shared → Prop} {E : Value → Shared → Prop} : ∀ {β : Type} {t : Sem β} {Q : β → Shared → Prop}, wpAny (model prog w) A t Q NE s → wpAny (model prog w) A t Q (notedBy (model prog w) A env R) s :=
  fun h => wpAny_mono h (fun _ _ q => q) fun _ _ e => e.elim

theorem ex_for {tg iter : Expr} {body : List Stmt} {pos : Pos} {α : Type} {T : Ty α} {xs : List α} {bnd : Rho → α → Rho} {Q : Flow → Shared → Prop} {E : Value → Shared → Prop} (X : Ex g s₀ D env s ρ) (hi : ItersF prog w A D s iter env T tg xs)
    (ha : Asg prog w A g s₀ D env tg T bnd) (Inv : List α → Rho → Shared → Prop) (h0 : ∀ s', Keeps s s' → Inv xs ρ s')
    (turn : ∀ x rem ρ₁ s₁ s₂, Inv (x :: rem) ρ₁ s₁ → Ex g s₀ D env s₂ (bnd ρ₁ x) → Oth env s₁ s₂ → Calm D s s₂ → wpAny (model prog w) A (execs body env) (fun f s₃ => match f with
      | .next | .cont => (∃ ρ₃, Ex g s₀ D env s₃ ρ₃ ∧ Inv rem ρ₃ s₃) ∧ Calm D s₂ s₃
      | .brk => False
      | .ret v => Q (.ret v) s₃) NE s₂)
    (done : ∀ ρ₁ s₁ s₂, Inv [] ρ₁ s₁ → Ex g s₀ D env s₂ ρ₁ → Oth env s₁ s₂ → Calm D s s₂ → Q .next s₂)
    (hs : ∀ x, foldedSetIterable iter env x = pure x := by intro _; rfl) : wpAny (model prog w) A (exec (.For tg iter body [] pos) env) Q E s := by
  refine wpAny_For (wpAny_mono (hi s (keeps_refl s) X.live) (fun v s₁ h => wpAny_mono h (fun it s₂ h => ?_) fun _ _ e => e.elim) fun _ _ e => e.elim) hs
  obtain ⟨k02, I, new, src⟩ := h
  obtain ⟨St, S, st⟩ := src D fun _ _ _ d => d
  have newI : ∀ a ∈ I, s₀.heap.get? a = none := fun a m => by
    cases e : s₀.heap.get? a with
    | none => rfl
    | some o => have := keeps_get X.kp e; rw [new a m] at this; cases this
  have apI : ∀ a ∈ I, ¬ D a := fun a m => live_none X.live (new a m)
  have step_calm : ∀ {s₃ s₄ : Shared}, Calm D s s₃ → StepI I s₃ s₄ → Calm D s s₄ := fun c st =>
    ⟨fun b o n f e => stepI_get st (fun m => by rw [new b m] at e; cases e) (c.le b o n f e), fun a o vs e d => stepI_get st (fun m => by rw [new a m] at e; cases e) (c.fields a o vs e d)⟩
  refine codeAny_forLoop_any (fun n s₃ => ∃ rem ρ₃, rem.length = n ∧ Ex g s₀ D env s₃ ρ₃ ∧ Inv rem ρ₃ s₃ ∧ St rem s₃.heap ∧ Calm D s s₃) (fun n s₃ hI => ?_) xs.length ⟨xs, ρ, rfl, X.up k02, h0 _ k02, st, .keeps k02⟩
  obtain ⟨rem, ρ₃, hn, X₃, hInv, st₃, c₃⟩ := hI
  refine noted_ne (E := E) ?_
  cases rem with
  | nil =>
    refine wpAny_mono (S.fin (Q := fun s₄ => Q .next s₄) (E := NE) st₃ fun s₄ hst => ?_) (fun r s₄ h => ?_) fun _ _ e => e
    · obtain ⟨X₄, o₄⟩ := X₃.stepI ⟨newI, apI, S.here st₃⟩ hst
      exact done ρ₃ s₃ s₄ hInv X₄ o₄ (step_calm c₃ hst)
    · obtain ⟨rfl, h⟩ := h
      exact wpAny_execs_nil h
  | cons x rem =>
    refine wpAny_mono (S.draw (E := NE) (Q := fun v s₄ => wpAny (model prog w) A (assign tg env v) (fun _ s₅ => wpAny (model prog w) A (execs body env) (fun f s₆ => match f with
          | .next | .cont => ∃ m, m < n ∧ ∃ rem ρ₃, rem.length = m ∧ Ex g s₀ D env s₆ ρ₃ ∧ Inv rem ρ₃ s₆ ∧ St rem s₆.heap ∧ Calm D s s₆
          | .brk => Q .next s₆
          | .ret v => Q (.ret v) s₆) NE s₅) NE s₄) st₃ X₃.live fun v s₄ hst hv st₄ => ?_) (fun r s₄ h => ?_) fun _ _ e => e
    · obtain ⟨X₄, o₄⟩ := X₃.stepI ⟨newI, apI, S.here st₃⟩ hst
      refine ha X₄ hv fun s₅ X₅ o₅ => ?_
      have c₅ : Calm D s s₅ := (step_calm c₃ hst).trans o₅.calm
      refine wpAny_mono (turn x rem ρ₃ s₃ s₅ hInv X₅ (o₄.trans (oth_others o₅)) c₅) (fun f s₆ h => ?_) fun _ _ e => e
      have fin : ∀ {P : Prop}, ((∃ ρ₃, Ex g s₀ D env s₆ ρ₃ ∧ Inv rem ρ₃ s₆) ∧ Calm D s₅ s₆) → ∃ m, m < n ∧ ∃ rem ρ₃, rem.length = m ∧ Ex g s₀ D env s₆ ρ₃ ∧ Inv rem ρ₃ s₆ ∧ St rem s₆.heap ∧ Calm D s s₆ := fun ⟨⟨ρ₆, X₆, i₆⟩, c₆⟩ =>
        ⟨rem.length, by simp at hn; omega, rem, ρ₆, rfl, X₆, i₆, S.frame st₄ (o₅.calm.trans c₆).le fun a m o e => by
          obtain ⟨o', vs, e', d'⟩ := S.here st₄ a m
          rw [e] at e'; cases e'
          exact c₆.fields a o vs (o₅.calm.fields a o vs e d') d', c₅.trans c₆⟩
      cases f with
      | next => exact fin (P := True) h
      | cont => exact fin (P := True) h
      | brk => exact h.elim
      | ret v => exact h
    · obtain ⟨v, rfl, h⟩ := h
      refine noted_ne (E := E) (wpAny_mono h (fun _ s₅ h => noted_ne (E := E) (wpAny_mono h (fun _ s₆ h => noted_ne (E := E) (wpAny_mono h (fun f s₇ h => ?_) fun _ _ e => e)) fun _ _ e => e)) fun _ _ e => e)
      cases f <;> exact h
end
end Mine

end
section

open PySem PySem.W PyProof.Rows PySem.Calls
namespace Mine
section
variable {prog : Program} {w : World} {A : Around} {D : Addr → Prop} {s s₁ s₂ s₀ : Shared} {g : Heap} {env : Env} {ρ : Rho} {mg mb : Str → Option Value}

-- the cells that a comprehension closes over
def freeCells (cells : List (Str × Addr)) : List (Str × NameKind) → List (Str × Addr) → List (Str × Addr)
  | [], acc => acc
  | (n, k) :: r, acc => if k == .free then (match cells.lookup n with | some a => freeCells cells r ((n, a) :: acc) | none => freeCells cells r acc) else freeCells cells r acc

theorem closureFor_is {scope : Scope} (h : ∀ y ∈ scope.names, y.2 = .free → ∃ c, env.cells.lookup y.1 = some c) : closureFor scope env = pure (freeCells env.cells scope.names []) := by
  unfold closureFor
  have key : ∀ (names : List (Str × NameKind)) (acc : List (Str × Addr)), (∀ y ∈ names, y.2 = .free → ∃ c, env.cells.lookup y.1 = some c) →
      (forIn names acc fun (x : Str × NameKind) (r : List (Str × Addr)) => (if (x.2 == NameKind.free) = true then (do let y ← cellOf env x.1; pure (ForInStep.yield ((x.1, y) :: r)) : Sem (ForInStep (List (Str × Addr)))) else pure (ForInStep.yield r))) = pure (freeCells env.cells names acc) := by
    intro names
    induction names with
    | nil => intro acc _; rfl
    | cons y r ih =>
      obtain ⟨n, k⟩ := y
      intro acc hn
      rw [List.forIn_cons]
      unfold freeCells
      have hr : ∀ y ∈ r, y.2 = .free → ∃ c, env.cells.lookup y.1 = some c := fun y m => hn y (.tail _ m)
      by_cases hk : (k == NameKind.free) = true
      · obtain ⟨c, hc⟩ := hn (n, k) (.head _) (beq_iff_eq.mp hk)
        simp only [hk, if_true]
        simp only at hc
        rw [hc]
        simp only [cellOf, hc]
        exact ih ((n, c) :: acc) hr
      · simp only [hk, if_false]
        exact ih acc hr
  simpa using key scope.names [] h

theorem mem_other {α : Type} {a b : α} {r : List α} (h : a ≠ b) : a ∈ b :: r ↔ a ∈ r := by
  rw [List.mem_cons]; exact or_iff_right h
theorem freeCells_lookup {cells : List (Str × Addr)} : ∀ (names : List (Str × NameKind)) (acc : List (Str × Addr)) (x : Str),
    (freeCells cells names acc).lookup x = (if (x, NameKind.free) ∈ names ∧ (cells.lookup x).isSome then cells.lookup x else acc.lookup x) ∨ (∃ c, acc.lookup x = some c ∧ cells.lookup x = some c ∧ (freeCells cells names acc).lookup x = some c)
  | [], acc, x => .inl (by simp [freeCells])
  | (n, k) :: r, acc, x => by
    unfold freeCells
    split
    · rename_i hk
      have hk' : k = .free := beq_iff_eq.mp hk
      subst hk'
      cases hc : cells.lookup n with
      | none =>
        dsimp only
        rcases freeCells_lookup r acc x with e | e
        · left
          rw [e]
          by_cases hx : x = n
          · subst hx; simp [hc]
          · simp only [mem_other (fun q : (x, NameKind.free) = (n, NameKind.free) => hx (Prod.mk.inj q).1)]
        · exact .inr e
      | some a =>
        dsimp only
        rcases freeCells_lookup r ((n, a) :: acc) x with e | ⟨c, e1, e2, e3⟩
        · by_cases hx : x = n
          · subst hx
            left
            rw [e]
            simp [hc, List.lookup_cons]
          · left
            rw [e]
            have : (x == n) = false := by simpa using hx
            simp only [mem_other (fun q : (x, NameKind.free) = (n, NameKind.free) => hx (Prod.mk.inj q).1), List.lookup_cons, this]
        · by_cases hx : x = n
          · subst hx
            left
            rw [e3]
            simp [hc, e2] at *
            exact e2.symm
          · right
            have : (x == n) = false := by simpa using hx
            rw [List.lookup_cons, this] at e1
            exact ⟨c, e1, e2, e3⟩
    · rename_i hk
      rcases freeCells_lookup r acc x with e | e
      · left
        rw [e]
        have : (x, NameKind.free) ≠ (n, k) := by
          rintro e'
          cases e'
          exact hk rfl
        simp only [mem_other this]
      · exact .inr e
theorem freeCells_some {cells : List (Str × Addr)} {names : List (Str × NameKind)} {x : Str} {c : Addr} (h : (freeCells cells names []).lookup x = some c) : cells.lookup x = some c := by
  rcases freeCells_lookup (cells := cells) names [] x with e | ⟨c', e1, _⟩
  · rw [e] at h
    split at h
    · exact h
    · cases h
  · cases e1
theorem freeCells_of {cells : List (Str × Addr)} {names : List (Str × NameKind)} {x : Str} {c : Addr} (hm : (x, NameKind.free) ∈ names) (h : cells.lookup x = some c) : (freeCells cells names []).lookup x = some c := by
  rcases freeCells_lookup (cells := cells) names [] x with e | ⟨c', e1, _⟩
  · rw [e, if_pos ⟨hm, by rw [h]; rfl⟩, h]
  · cases e1

-- the cells that a comprehension makes
theorem cellsFrom_keep {x : Str} : ∀ (names : List (Str × NameKind)) (n : Nat) (acc : List (Str × Addr)), (x, NameKind.cell) ∉ names → (cellsFrom n names acc).lookup x = acc.lookup x
  | [], _, _, _ => rfl
  | (y, k) :: r, n, acc, h => by
    unfold cellsFrom
    have hr : (x, NameKind.cell) ∉ r := fun m => h (.tail _ m)
    split
    · rename_i hk
      rw [cellsFrom_keep r _ _ hr]
      have : ¬ x = y := fun e => h (by rw [e, ← beq_iff_eq.mp hk]; exact .head _)
      rw [List.lookup_cons, show (x == y) = false by simpa using this]
    · exact cellsFrom_keep r _ _ hr
structure CellsGood (h : Heap) (cs : List (Str × Addr)) : Prop where
  cell : ∀ x c, cs.lookup x = some c → ∃ v, h.IsCell c v
  apart : ∀ x y c, cs.lookup x = some c → cs.lookup y = some c → x = y
theorem cellsGood_push : ∀ (names : List (Str × NameKind)) (h : Heap) (acc : List (Str × Addr)), CellsGood h acc → CellsGood (pushCells h names) (cellsFrom h.objs.size names acc)
  | [], _, _, x => x
  | (n, k) :: r, h, acc, x => by
    unfold pushCells cellsFrom
    split
    · have good : CellsGood (h.push { cls := .type "cell", data := .cell none }) ((n, h.objs.size) :: acc) := by
        have lt : ∀ y c, acc.lookup y = some c → c ≠ h.objs.size := fun y c e q => by
          obtain ⟨v, hv⟩ := x.cell y c e
          exact Nat.lt_irrefl _ (q ▸ hv.lt)
        refine ⟨fun y c e => ?_, fun y z c e e' => ?_⟩
        · rw [List.lookup_cons] at e
          split at e
          · cases e; exact ⟨_, _, Heap.get?_push_size _ rfl, rfl⟩
          · obtain ⟨v, hv⟩ := x.cell y c e
            exact ⟨v, hv.keeps fun b o q => Heap.get?_push_of_some _ q⟩
        · rw [List.lookup_cons] at e e'
          split at e
          · rename_i hy
            cases e
            split at e'
            · rename_i hz
              rw [beq_iff_eq.mp hy, beq_iff_eq.mp hz]
            · exact absurd rfl (lt z _ e')
          · split at e'
            · cases e'
              exact absurd rfl (lt y _ e)
            · exact x.apart y z c e e'
      have := cellsGood_push r _ _ good
      rwa [Heap.size_push] at this
    · exact cellsGood_push r h acc x
theorem cellsFrom_new {x : Str} : ∀ (names : List (Str × NameKind)) (n : Nat) (acc : List (Str × Addr)), (x, NameKind.cell) ∈ names → ∃ c, (cellsFrom n names acc).lookup x = some c ∧ n ≤ c
  | (y, k) :: r, n, acc, h => by
    unfold cellsFrom
    by_cases hr : (x, NameKind.cell) ∈ r
    · split
      · obtain ⟨c, e, l⟩ := cellsFrom_new r (n + 1) ((y, n) :: acc) hr
        exact ⟨c, e, by omega⟩
      · exact cellsFrom_new r n acc hr
    · cases h with
      | tail _ h => exact absurd h hr
      | head =>
        rw [if_pos (by rfl)]
        refine ⟨n, ?_, Nat.le_refl _⟩
        rw [cellsFrom_keep r _ _ hr, List.lookup_cons]
        simp

/-- the names that a comprehension takes from around it -/
def pick (fl : List Str) (ρ : Rho) : Rho := fun z => if fl.contains z then ρ z else none

theorem lookup_relabel_free {names : List (Str × NameKind)} {x : Str} (h : names.lookup x = some .free) :
    (names.map fun (n, k) => if (k == NameKind.free && env.scope.kind == .function && env.kindOf n == some .cell) then (n, NameKind.cell) else (n, k)).lookup x = some .cell ∨
    (names.map fun (n, k) => if (k == NameKind.free && env.scope.kind == .function && env.kindOf n == some .cell) then (n, NameKind.cell) else (n, k)).lookup x = some .free := by
  induction names with
  | nil => simp at h
  | cons y r ih =>
    obtain ⟨n, k⟩ := y
    rw [List.lookup_cons] at h
    rw [List.map_cons]
    cases hx : x == n with
    | true =>
      rw [hx] at h
      cases h
      dsimp only
      split
      · left; rw [List.lookup_cons, hx]
      · right; rw [List.lookup_cons, hx]
    | false =>
      rw [hx] at h
      dsimp only
      split
      · rw [List.lookup_cons, hx]; exact ih h
      · rw [List.lookup_cons, hx]; exact ih h
theorem lookup_relabel_cell {names : List (Str × NameKind)} {x : Str} (h : (names.map fun (n, k) => if (k == NameKind.free && env.scope.kind == .function && env.kindOf n == some .cell) then (n, NameKind.cell) else (n, k)).lookup x = some .cell ∨
    (names.map fun (n, k) => if (k == NameKind.free && env.scope.kind == .function && env.kindOf n == some .cell) then (n, NameKind.cell) else (n, k)).lookup x = some .free) : (x, NameKind.cell) ∈ names ∨ (x, NameKind.free) ∈ names := by
  induction names with
  | nil => simp at h
  | cons y r ih =>
    obtain ⟨n, k⟩ := y
    rw [List.map_cons] at h
    cases hx : x == n with
    | true =>
      have hx' := beq_iff_eq.mp hx
      subst hx'
      dsimp only at h
      split at h
      · rename_i hc
        have : k = .free := by
          simp only [Bool.and_eq_true, beq_iff_eq] at hc
          exact hc.1.1
        subst this
        exact .inr (.head _)
      · rw [List.lookup_cons, hx] at h
        rcases h with h | h
        · cases h; exact .inl (.head _)
        · cases h; exact .inr (.head _)
    | false =>
      dsimp only at h
      have h' : (r.map fun (n, k) => if (k == NameKind.free && env.scope.kind == .function && env.kindOf n == some .cell) then (n, NameKind.cell) else (n, k)).lookup x = some .cell ∨
          (r.map fun (n, k) => if (k == NameKind.free && env.scope.kind == .function && env.kindOf n == some .cell) then (n, NameKind.cell) else (n, k)).lookup x = some .free := by
        split at h
        · rw [List.lookup_cons, hx] at h; exact h
        · rw [List.lookup_cons, hx] at h; exact h
      exact (ih h').imp (.tail _) (.tail _)

/-- what is known of a comprehension's scope, once for all -/
structure CompScope (scope : Scope) (env : Env) (fl : List Str) : Prop where
  kind : scope.kind = .function
  names : ∀ x ∈ scope.names, x.2 = .local → scope.names.lookup x.1 = some .local
  free : ∀ x ∈ scope.names, x.2 = .free → env.kindOf x.1 = some .cell ∨ env.kindOf x.1 = some .free
  pick : ∀ z ∈ fl, scope.names.lookup z = some .free ∧ (z, NameKind.cell) ∉ scope.names ∧ (z == ("__classdict__" : Str)) = false

/-- the frame of a comprehension -/
theorem comp_frame {scope : Scope} {fl : List Str} (cs : CompScope scope env fl) (X : Ex g s₀ D env s ρ) {X' : Addr} {k1 : Keeps s s₁} (hX : s.heap.get? X' = none) (hX1 : s₁.heap.get? X' = some (lstObj #[] 0))
    {D' : Addr → Prop} (hD' : D' = fun a => (D a ∨ a = X') ∨ a = s₁.heap.objs.size) :
    Ex g s D' (compEnvC scope (cellsFrom (s₁.heap.objs.size + 1) scope.names (freeCells env.cells scope.names [])) s₁.heap.objs.size env)
      { s₁ with heap := pushCells (s₁.heap.push { cls := .type "dict", data := .dict #[] }) scope.names } (pick fl ρ) ∧
    Keeps s₁ { s₁ with heap := pushCells (s₁.heap.push { cls := .type "dict", data := .dict #[] }) scope.names } := by
  have kk : Keeps s₁ { s₁ with heap := pushCells (s₁.heap.push { cls := .type "dict", data := .dict #[] }) scope.names } :=
    ⟨_, s₁.toks, rfl, fun b o e => pushCells_keeps _ _ b o (Heap.get?_push_of_some _ e)⟩
  have hC : (pushCells (s₁.heap.push { cls := .type "dict", data := .dict #[] }) scope.names).Ns s₁.heap.objs.size fun _ => none :=
    (Heap.Ns.new s₁.heap (.type "dict")).keeps (pushCells_keeps _ _)
  have hCn : s.heap.get? s₁.heap.objs.size = none := none_of_keeps k1
  have k2 := keeps_trans k1 kk
  have X₁ := X.up k1
  have good : CellsGood (s₁.heap.push { cls := .type "dict", data := .dict #[] }) (freeCells env.cells scope.names []) := by
    refine ⟨fun x c e => ?_, fun x y c e e' => X.fm.apart x y c (freeCells_some e) (freeCells_some e')⟩
    obtain ⟨v, hv⟩ := X₁.fm.cells x c (freeCells_some e)
    exact ⟨v, hv.keeps fun b o q => Heap.get?_push_of_some _ q⟩
  have good' := cellsGood_push scope.names _ _ good
  rw [Heap.size_push] at good'
  refine ⟨⟨X.subs, k2, ?_, ?_⟩, kk⟩
  · subst hD'
    rintro a ((d | rfl) | rfl)
    · obtain ⟨o, e⟩ := X.live a d
      exact ⟨o, keeps_get k2 e⟩
    · exact ⟨_, keeps_get kk hX1⟩
    · obtain ⟨o, _, _, e, _⟩ := hC
      exact ⟨o, e⟩
  · refine ⟨cs.kind, ⟨_, hC⟩, hCn, by subst hD'; exact .inr rfl, good'.cell, good'.apart, fun x q => ?_, X.fm.glob, fun z e hz => ?_⟩
    · rcases lookup_relabel_cell (env := env) q with m | m
      · obtain ⟨c, hc, _⟩ := cellsFrom_new scope.names (s₁.heap.objs.size + 1) (freeCells env.cells scope.names []) m
        exact ⟨c, hc⟩
      · by_cases mc : (x, NameKind.cell) ∈ scope.names
        · obtain ⟨c, hc, _⟩ := cellsFrom_new scope.names (s₁.heap.objs.size + 1) (freeCells env.cells scope.names []) mc
          exact ⟨c, hc⟩
        · obtain ⟨c, hc⟩ := X.fm.cellOk x (cs.free _ m rfl)
          exact ⟨c, by show (cellsFrom _ scope.names _).lookup x = some c; rw [cellsFrom_keep _ _ _ mc]; exact freeCells_of m hc⟩
    · unfold pick at hz
      split at hz
      · rename_i hfl
        obtain ⟨q1, q2, q3⟩ := cs.pick z (by simpa using hfl)
        obtain ⟨v, hn, ht⟩ := X.fm.names z e hz
        refine ⟨v, ?_, e.T.mono (keeps_le k2 _) (e.T.wide (fun a o ea da => ?_) ht)⟩
        · have mf := mem_of_lookup q1
          have hfree := cs.free _ mf rfl
          rcases hn with ⟨a, _⟩ | ⟨_, c, hc, hv⟩
          · rw [a] at hfree
            rcases hfree with h | h <;> cases h
          · refine .inr ⟨?_, c, ?_, hv.keeps fun b o q => keeps_get k2 q⟩
            · rcases lookup_relabel_free (env := env) q1 with h | h
              · exact .inl h
              · exact .inr ⟨h, q3⟩
            · show (cellsFrom _ scope.names _).lookup z = some c
              rw [cellsFrom_keep _ _ _ q2]
              exact freeCells_of mf hc
        · subst hD'
          rcases da with (d | rfl) | rfl
          · exact d
          · rw [hX] at ea; cases ea
          · rw [hCn] at ea; cases ea
      · cases hz
end
end Mine

end
section

open PySem PySem.W PyProof.Rows PySem.Calls
namespace Mine
section
variable {prog : Program} {w : World} {A : Around} {D : Addr → Prop} {s s₁ s₂ s₀ : Shared} {g : Heap} {env : Env} {ρ : Rho} {mg mb : Str → Option Value}

/-- a list or dict of the frame's own turned -/
theorem Ex.mut {a : Addr} {h' : Heap} {tk : Nat} {o o' : Obj} (X : Ex g s₀ D env s ρ) (hs : Heap.SameBut a s.heap h') (da : D a) (na : s₀.heap.get? a = none) (ho : s.heap.get? a = some o) (fo : Firm o) (ho' : h'.get? a = some o') (hL : a ≠ env.locals) :
    Ex g s₀ D env { s with heap := h', toks := tk } ρ ∧ Calm D s { s with heap := h', toks := tk } := by
  have hle : Le D s.heap h' := le_of_sameBut hs (.inl da)
  have hcell : ∀ {c : Addr} {v : Option Value}, s.heap.IsCell c v → h'.IsCell c v := fun {c v} hc => hc.sameBut hs fun q => by
    obtain ⟨o2, e2, d2⟩ := hc
    rw [q, ho] at e2; cases e2
    unfold Firm at fo; rw [d2] at fo; exact fo
  obtain ⟨hS, hK, hLv, F⟩ := X
  refine ⟨⟨hS, ?_, ?_, ⟨F.kind, let ⟨m, hn⟩ := F.ns; ⟨m, hn.sameBut hs (Ne.symm hL)⟩, F.newL, F.volL, fun x c e => let ⟨v, hv⟩ := F.cells x c e; ⟨v, hcell hv⟩, F.apart, F.cellOk, F.glob, fun x e h => ?_⟩⟩, hle, fun b ob vs e d => (hs.2 b fun q => ?_).trans e⟩
  · obtain ⟨h0, t0, rfl, hk0⟩ := hK
    exact ⟨h', tk, rfl, fun b o e => (hs.2 b (fun q => by rw [q, na] at e; cases e)).trans (hk0 b o e)⟩
  · intro b d
    by_cases hb : b = a
    · exact ⟨o', hb ▸ ho'⟩
    · obtain ⟨ob, e⟩ := hLv b d
      exact ⟨ob, (hs.2 b hb).trans e⟩
  · obtain ⟨v, hn, ht⟩ := F.names x e h
    refine ⟨v, ?_, e.T.mono hle ht⟩
    rcases hn with ⟨q, m, hn, hm⟩ | ⟨q, c, hc, hv⟩
    · exact .inl ⟨q, m, hn.sameBut hs (Ne.symm hL), hm⟩
    · exact .inr ⟨q, c, hc, hcell hv⟩
  · rw [q, ho] at e; cases e
    unfold Firm at fo; rw [d] at fo; exact fo

/-- the list that a comprehension fills -/
def Acc {β : Type} (U : Ty β) (D : Addr → Prop) (X : Addr) (h : Heap) (ys : List β) : Prop := ∃ vs n, h.get? X = some (lstObj (List.toArray vs) n) ∧ Paired (U.is D h) vs ys
theorem acc_oth {β : Type} {U : Ty β} {X : Addr} {ys : List β} (a : Acc U D X s.heap ys) (o : Oth env s s₁) (le : Le D s.heap s₁.heap) (n : X ≠ env.locals) : Acc U D X s₁.heap ys := by
  obtain ⟨vs, m, e, p⟩ := a
  exact ⟨vs, m, o X _ e n (firm_lst _ _), paired_mono (fun _ _ => U.mono le) p⟩
theorem acc_keeps {β : Type} {U : Ty β} {X : Addr} {ys : List β} (a : Acc U D X s.heap ys) (k : Keeps s s₁) : Acc U D X s₁.heap ys := by
  obtain ⟨vs, m, e, p⟩ := a
  exact ⟨vs, m, keeps_get k e, paired_mono (fun _ _ => U.mono (keeps_le k D)) p⟩

/-- one turn of a comprehension, taken apart -/
def Turns (prog : Program) (w : World) (A : Around) (e : Expr) (d : Nat) (it acc : Value) (env : Env) (tg : Expr) (body : Sem Unit) : Prop :=
  ∀ (s : Shared) (Q : Fin → Shared → Prop), wpAny (model prog w) A (pyNext it) (fun r s₁ => (r = none ∧ Q (.done .next) s₁) ∨ ∃ v, r = some v ∧ wpAny (model prog w) A (letOwnedTupleGo tg it v) (fun _ s₂ =>
    wpAny (model prog w) A (assign tg env v) (fun _ s₃ => wpAny (model prog w) A body (fun _ s₄ => Q (.again (.compLoop e d it acc env)) s₄) NE s₃) NE s₂) NE s₁) NE s → wpAny (model prog w) A (compTurn e d it acc env) Q NE s

theorem comp_loop {elt : Expr} {gens : List Comprehension} {scope : Scope} {pos : Pos} {d : Nat} {it : Value} {X : Addr} {tg : Expr} {body : Sem Unit} {α β : Type} {T : Ty α} {U : Ty β} {I : List Addr} {St : List α → Heap → Prop} {bnd : Rho → α → Rho} {f : α → List β} {xs : List α} {ys : List β}
    {R : Result → Shared → Prop} (tn : Turns prog w A (.ListComp elt gens scope pos) d it (.ref X) env tg body) (S : Src prog w A D T tg it I St) (ha : Asg prog w A g s₀ D env tg T bnd) (hb : ∀ x z e, ρ z = some e → bnd ρ x z = some e)
    (hX : X ≠ env.locals) (newI : ∀ a ∈ I, s₀.heap.get? a = none) (apI : ∀ a ∈ I, ¬ D a)
    (hbody : ∀ x ∈ xs, ∀ s₁ ys', Ex g s₀ D env s₁ (bnd ρ x) → Acc U D X s₁.heap ys' → ys'.length ≤ (ys ++ xs.flatMap f).length → wpAny (model prog w) A body (fun _ s₂ => Ex g s₀ D env s₂ (bnd ρ x) ∧ Acc U D X s₂.heap (ys' ++ f x) ∧ Calm D s₁ s₂) NE s₁)
    (E₀ : Ex g s₀ D env s ρ) (a₀ : Acc U D X s.heap ys) (st₀ : St xs s.heap)
    (hR : ∀ s', Ex g s₀ D env s' ρ → Acc U D X s'.heap (ys ++ xs.flatMap f) → (∀ a o vs, a ∉ I → s.heap.get? a = some o → o.data = .fields vs → s'.heap.get? a = some o) → Le D s.heap s'.heap → R (.ok .next) s') :
    codeAny (model prog w) A (.compLoop (.ListComp elt gens scope pos) d it (.ref X) env) R s := by
  refine codeAny_loop rfl (fun n s₁ => ∃ done rem, rem.length = n ∧ xs = done ++ rem ∧ Ex g s₀ D env s₁ ρ ∧ Acc U D X s₁.heap (ys ++ done.flatMap f) ∧ St rem s₁.heap ∧ (∀ a o vs, a ∉ I → s.heap.get? a = some o → o.data = .fields vs → s₁.heap.get? a = some o) ∧ Le D s.heap s₁.heap) (fun n s₁ hI => ?_) xs.length ⟨[], xs, rfl, rfl, E₀, by simpa using a₀, st₀, (fun _ _ _ _ e _ => e), fun _ _ _ _ e => e⟩
  obtain ⟨done, rem, hn, hxs, X₁, a₁, st₁, c₁, l₁⟩ := hI
  show wpAny _ A ((compTurn (.ListComp elt gens scope pos) d it (.ref X) env).onRaise (fun x => do noteFrame x env; theTreesLotGoes x)) _ _ s₁
  refine wpAny_noted (noted_ne (E := fun _ _ => True) ?_)
  refine wpAny_mono (tn s₁ _ ?_) (fun _ _ q => q) fun _ _ e => e
  have step : ∀ {s₂ : Shared}, StepI I s₁ s₂ → ∀ a o vs, a ∉ I → s.heap.get? a = some o → o.data = .fields vs → s₂.heap.get? a = some o := fun st a o vs n e d => stepI_get st n (c₁ a o vs n e d)
  cases rem with
  | nil =>
    refine wpAny_mono (S.fin (E := NE) (Q := fun s₂ => R (.ok .next) s₂) st₁ fun s₂ hst => ?_) (fun r s₂ h => .inl ⟨h.1, h.2⟩) fun _ _ e => e
    obtain ⟨X₂, o₂⟩ := X₁.stepI ⟨newI, apI, S.here st₁⟩ hst
    refine hR s₂ X₂ ?_ (step hst) (fun b o nd f e => o₂ b o (l₁ b o nd f e) (fun q => nd (q ▸ X₁.fm.volL)) f)
    have : xs = done := by simpa using hxs
    rw [this]
    exact acc_oth a₁ o₂ (fun b o nd f e => o₂ b o e (fun q => nd (q ▸ X₁.fm.volL)) f) hX
  | cons x rem =>
    refine wpAny_mono (S.draw (E := NE) (Q := fun v s₂ => wpAny (model prog w) A (assign tg env v) (fun _ s₃ => wpAny (model prog w) A body (fun _ s₄ => Code.compLoop (.ListComp elt gens scope pos) d it (.ref X) env = Code.compLoop (.ListComp elt gens scope pos) d it (.ref X) env ∧ ∃ m, m < n ∧
        ∃ done rem, rem.length = m ∧ xs = done ++ rem ∧ Ex g s₀ D env s₄ ρ ∧ Acc U D X s₄.heap (ys ++ done.flatMap f) ∧ St rem s₄.heap ∧ (∀ a o vs, a ∉ I → s.heap.get? a = some o → o.data = .fields vs → s₄.heap.get? a = some o) ∧ Le D s.heap s₄.heap) NE s₃) NE s₂) st₁ X₁.live fun v s₂ hst hv st₂ => ?_)
      (fun r s₂ h => .inr ?_) fun _ _ e => e
    · obtain ⟨X₂, o₂⟩ := X₁.stepI ⟨newI, apI, S.here st₁⟩ hst
      have a₂ := acc_oth a₁ o₂ (fun b o nd f e => o₂ b o e (fun q => nd (q ▸ X₁.fm.volL)) f) hX
      refine ha X₂ hv fun s₃ X₃ o₃ => ?_
      have a₃ := acc_oth a₂ (oth_others o₃) o₃.calm.le hX
      refine wpAny_mono (hbody x (by rw [hxs]; simp) s₃ _ X₃ a₃ (by rw [hxs]; simp [List.flatMap_append])) (fun _ s₄ h => ⟨rfl, rem.length, by simp at hn; omega, done ++ [x], rem, rfl, by rw [hxs]; simp, ?_, ?_, ?_, ?_, ?_⟩) fun _ _ e => e
      · exact h.1.weak (hb x)
      · have := h.2.1
        rw [List.append_assoc] at this
        simpa [List.flatMap_append] using this
      · exact S.frame st₂ (o₃.calm.trans h.2.2).le fun a m o e => by
          obtain ⟨o', vs, e', d'⟩ := S.here st₂ a m
          rw [e] at e'; cases e'
          exact h.2.2.fields a o vs (o₃.calm.fields a o vs e d') d'
      · exact fun a o vs n e d => h.2.2.fields a o vs (o₃.calm.fields a o vs (step hst a o vs n e d) d) d
      · exact fun b o nd f e => h.2.2.le b o nd f (o₃.calm.le b o nd f (o₂ b o (l₁ b o nd f e) (fun q => nd (q ▸ X₁.fm.volL)) f))
    · obtain ⟨v, rfl, h⟩ := h
      exact ⟨v, rfl, h⟩

/-- the end of a turn of the innermost clause -/
def emit (elt : Expr) (ifs : List Expr) (acc : Value) (env : Env) : Sem Unit := do
  let ok ← forIn ifs true fun c r => if r = true then do let ok ← isTrue c env (eval c env); pure (ForInStep.yield ok) else pure (ForInStep.yield r)
  if ok = true then do
    let x ← eval elt env
    let _ ← call (.builtin "list.append") [acc, x]
    pure ()
  else pure ()

theorem turns_one {elt iter tg : Expr} {ifs : List Expr} {scope : Scope} {pos : Pos} {it acc : Value} : Turns prog w A (.ListComp elt [⟨tg, iter, ifs, 0⟩] scope pos) 0 it acc env tg (emit elt ifs acc env) := fun s Q h => by
  rw [compTurn_list]
  refine wpAny_bind (wpAny_standAt (wpAny_bind (wpAny_mono h (fun r s₁ h₁ => ?_) fun _ _ e => e)))
  rcases h₁ with ⟨rfl, h₁⟩ | ⟨v, rfl, h₁⟩
  · exact wpAny_pure h₁
  · refine wpAny_bind (wpAny_mono h₁ (fun _ s₂ h₂ => wpAny_bind (wpAny_mono h₂ (fun _ s₃ h₃ => ?_) fun _ _ e => e)) fun _ _ e => e)
    intro Γ p hΓ
    have h₃' := h₃ Γ p hΓ
    unfold emit at h₃'
    rw [Sem.wp_bind'] at h₃' ⊢
    refine Sem.wp_mono _ Γ _ (fun ok p' s₄ h₄ => ?_) (fun _ _ _ e => e) p s₃ h₃'
    cases ok with
    | false => exact h₄
    | true =>
      simp only [if_true] at h₄ ⊢
      rw [Sem.wp_bind'] at h₄ ⊢
      rw [Sem.wp_bind']
      refine Sem.wp_mono _ Γ _ (fun x p'' s₅ h₅ => ?_) (fun _ _ _ e => e) p' s₄ h₄
      rw [Sem.wp_bind'] at h₅ ⊢
      refine Sem.wp_mono _ Γ _ (fun x p'' s₅ h₅ => ?_) (fun _ _ _ e => e) p'' s₅ h₅
      exact h₅

theorem call_append {l : Addr} {items : Array Value} {n : Nat} {x : Value} {Q : Value → Shared → Prop} {E : Value → Shared → Prop} (hl : s.heap.get? l = some (lstObj items n)) (hsz : items.size ≤ 20000)
    (h : ∀ h' n', h'.get? l = some (lstObj (items.push x) n') → Heap.SameBut l s.heap h' → Q .none { s with heap := h' }) : wpAny (model prog w) A (call (.builtin "list.append") [.ref l, x]) Q E s := by
  refine wpAny_call_entry slot_list_append (isList_of hl).typeIs entry_list_append ?_ (args_list_append _ _)
  show wpAny _ _ (updateSeq l (·.push x) >>= fun _ => ret .none) _ _ s
  refine wpAny_bind (wpAny_updateSeq hl rfl (wpAny_pure ⟨.none, rfl, h _ _ (Heap.get?_update_self _ hl rfl) (Heap.SameBut.update ..)⟩) ?_)
  rw [sizeLine_eq]; omega

/-- the tests of a clause, none or one -/
abbrev Tests (prog : Program) (w : World) (A : Around) (D : Addr → Prop) (s : Shared) (ifs : List Expr) (env : Env) (b : Bool) : Prop :=
  Hs prog w A D s (forIn ifs true fun c r => if r = true then do let ok ← isTrue c env (eval c env); pure (ForInStep.yield ok) else pure (ForInStep.yield r)) fun _ ok => ok = b
theorem tests_none : Tests prog w A D s [] env true := Hs.of fun s' Q k l h => wpAny_tests_nil (h _ _ (keeps_refl _) rfl)
theorem tests_one {c : Expr} {b : Bool} (h : Tst prog w A D s c env b) : Tests prog w A D s [c] env b := fun s' k l => wpAny_tests_one (h s' k l)

theorem emit_ok {elt : Expr} {ifs : List Expr} {X : Addr} {β : Type} {U : Ty β} {b : Bool} {y : β} {ys : List β} (E₀ : Ex g s₀ D env s ρ) (a₀ : Acc U D X s.heap ys) (hX : X ≠ env.locals) (dX : D X) (nX : s₀.heap.get? X = none) (ht : Tests prog w A D s ifs env b)
    (he : b = true → Has prog w A D s (eval elt env) U y) (hsz : ys.length ≤ 10000) :
    wpAny (model prog w) A (emit elt ifs (.ref X) env) (fun _ s₂ => Ex g s₀ D env s₂ ρ ∧ Acc U D X s₂.heap (ys ++ if b then [y] else []) ∧ Calm D s s₂) NE s := by
  unfold emit
  refine wpAny_bind (wpAny_mono (ht s (keeps_refl s) E₀.live) (fun ok s₁ h₁ => ?_) fun _ _ e => e)
  obtain ⟨k₁, rfl⟩ := h₁
  cases ok with
  | false => exact wpAny_pure ⟨E₀.up k₁, by simpa using acc_keeps a₀ k₁, .keeps k₁⟩
  | true =>
    simp only [if_true]
    refine wpAny_bind (wpAny_mono (he rfl s₁ k₁ (live_keeps E₀.live k₁)) (fun v s₂ h₂ => ?_) fun _ _ e => e)
    obtain ⟨k₂, hv⟩ := h₂
    have k := keeps_trans k₁ k₂
    obtain ⟨vs, n, e, p⟩ := acc_keeps a₀ k
    have hvs : vs.length ≤ 10000 := by rw [p.length]; exact hsz
    refine wpAny_bind (call_append e (by rw [List.size_toArray]; omega) fun h' n' hl hs => wpAny_pure ?_)
    have X₂ := E₀.up k
    obtain ⟨X₃, c₃⟩ := X₂.mut (tk := s₂.toks) hs dX nX e (firm_lst _ _) hl hX
    refine ⟨X₃, ⟨vs ++ [v], n', by rw [hl]; simp, ?_⟩, (Calm.keeps k).trans c₃⟩
    exact paired_append (paired_mono (fun _ _ => U.mono c₃.le) p) (.cons (U.mono c₃.le hv) .nil)
end
end Mine

end
section

open PySem PySem.W PyProof.Rows PySem.Calls
namespace Mine
section
variable {prog : Program} {w : World} {A : Around} {D : Addr → Prop} {s s₁ s₂ s₀ : Shared} {g : Heap} {env : Env} {ρ : Rho} {mg mb : Str → Option Value}

theorem new_comp_env {scope : Scope} {cl : List (Str × Addr)} {Q : Env → Shared → Prop} {E : Value → Shared → Prop}
    (h : Q (newEnv scope s.heap.objs.size env.globals (cellsFrom (s.heap.objs.size + 1) scope.names cl) env.qual none .none (some env) builtinsNs) { s with heap := pushCells (s.heap.push { cls := .type "dict", data := .dict #[] }) scope.names }) :
    wpAny (model prog w) A (newFunctionEnv scope env.globals cl [] env.qual none .none (some env)) Q E s := by
  simp only [newFunctionEnv, Option.isSome_some, if_true]
  refine wpAny_bind (wpAny_alloc ?_)
  refine wpAny_bind (wpAny_layCells _ (fun name kind cells => by cases hkc : kind == NameKind.cell <;> simp [hkc]) _ _ _ _ ?_)
  rw [show ({ s with heap := s.heap.push { cls := .type "dict", data := .dict #[] } } : Shared).heap.objs.size = s.heap.objs.size + 1 from Heap.size_push ..]
  rw [List.forIn_nil]
  exact wpAny_bind (wpAny_pure (wpAny_pure h))

/-- what the writer of a comprehension's inside may lean on -/
structure CompIn (s : Shared) (scope : Scope) (cs : List (Str × Addr)) (C X : Addr) (D' : Addr → Prop) : Prop where
  cells : ∀ n, (n, NameKind.cell) ∈ scope.names → ∃ c, cs.lookup n = some c ∧ s.heap.get? c = none
  ne : X ≠ C
  dX : D' X
  nX : s.heap.get? X = none

theorem pushCells_size (names : List (Str × NameKind)) : ∀ h : Heap, h.objs.size ≤ (pushCells h names).objs.size := by
  induction names with
  | nil => intro h; exact Nat.le_refl _
  | cons y r ih =>
    obtain ⟨n, k⟩ := y
    intro h
    unfold pushCells
    split
    · exact Nat.le_trans (by rw [Heap.size_push]; omega) (ih _)
    · exact ih h

theorem comp_run {elt tg iter : Expr} {ifs : List Expr} {rest : List Comprehension} {scope : Scope} {pos : Pos} {α β : Type} {T : Ty α} {U : Ty β} {bnd : Rho → α → Rho} {f : α → List β} {xs : List α} {fl : List Str} {use : Option (Value → Sem Unit)} {Q : Value → Shared → Prop} {p0 : Pos}
    (X : Ex g s₀ D env s ρ) (hi : Iters prog w A D s iter env T tg xs) (cs : CompScope scope env fl) (hb : ∀ x z e, pick fl ρ z = some e → bnd (pick fl ρ) x z = some e) (hsz : (xs.flatMap f).length ≤ 9000)
    (hin : ∀ s' cl C X' D', Keeps s s' → CompIn s' scope cl C X' D' → ∃ body, (∀ it, Turns prog w A (.ListComp elt (⟨tg, iter, ifs, 0⟩ :: rest) scope pos) 0 it (.ref X') (compEnvC scope cl C env) tg body) ∧
      Asg prog w A g s' D' (compEnvC scope cl C env) tg T bnd ∧
      ∀ x ∈ xs, ∀ s₁ ys, Ex g s' D' (compEnvC scope cl C env) s₁ (bnd (pick fl ρ) x) → Acc U D' X' s₁.heap ys → ys.length ≤ 9000 →
        wpAny (model prog w) A body (fun _ s₂ => Ex g s' D' (compEnvC scope cl C env) s₂ (bnd (pick fl ρ) x) ∧ Acc U D' X' s₂.heap (ys ++ f x) ∧ Calm D' s₁ s₂) NE s₁)
    (hQ : ∀ s' C X' D' cl, Keeps s s' → s.heap.get? X' = none → s.heap.get? C = none → X' ≠ C → (D' = fun a => (D a ∨ a = X') ∨ a = C) → (∃ m, s'.heap.Ns C m) → Ex g s D' (compEnvC scope cl C env) s' (pick fl ρ) → Acc U D' X' s'.heap (xs.flatMap f) →
      compPost (model prog w) A NE use Q (.ref X') C (.ok .next) s')
    (hs : ∀ x, foldedSetIterable iter env x = pure x := by intro _; rfl) :
    wpAny (model prog w) A (comprehension (.ListComp elt (⟨tg, iter, ifs, 0⟩ :: rest) scope pos) scope env p0 (newList []) false (eval iter env) use) Q NE s := by
  refine wpAny_comprehension_free rfl hs (closureFor_is fun y m e => X.fm.cellOk y.1 (cs.free y m e)) cs.kind cs.names (wpAny_mono (hi s (keeps_refl s) X.live) (fun v s₁ h => wpAny_mono h (fun it s₂ h => ?_) fun _ _ e => e.elim) fun _ _ e => e.elim)
  obtain ⟨k02, I, newI, src⟩ := h
  refine wpAny_newList (new_comp_env ?_) (by rw [sizeLine_eq]; simp)
  have k2 : Keeps s₂ { s₂ with heap := s₂.heap.push { cls := .type "list", data := .seq ([] : List Value).toArray } } := keeps_push s₂ _
  generalize hs3 : ({ s₂ with heap := s₂.heap.push { cls := .type "list", data := .seq ([] : List Value).toArray } } : Shared) = s₃ at k2 ⊢
  have k03 := keeps_trans k02 k2
  have hX0 : s.heap.get? s₂.heap.objs.size = none := none_of_keeps k02
  have hX2 : s₂.heap.get? s₂.heap.objs.size = none := none_size _
  have hX3 : s₃.heap.get? s₂.heap.objs.size = some (lstObj #[] 0) := by rw [← hs3]; exact Heap.get?_push_size _ rfl
  have hC0 : s.heap.get? s₃.heap.objs.size = none := none_of_keeps k03
  have hC2 : s₂.heap.get? s₃.heap.objs.size = none := none_of_keeps k2
  have hXC : s₂.heap.objs.size ≠ s₃.heap.objs.size := by rw [← hs3]; show s₂.heap.objs.size ≠ (s₂.heap.push _).objs.size; rw [Heap.size_push]; omega
  obtain ⟨E₄, k34⟩ := comp_frame (D' := fun a => (D a ∨ a = s₂.heap.objs.size) ∨ a = s₃.heap.objs.size) (k1 := k03) cs X hX0 hX3 rfl
  generalize hs4 : ({ s₃ with heap := pushCells (s₃.heap.push { cls := .type "dict", data := .dict #[] }) scope.names } : Shared) = s₄ at E₄ k34 ⊢
  have hD' : ∀ a o, s₂.heap.get? a = some o → ((D a ∨ a = s₂.heap.objs.size) ∨ a = s₃.heap.objs.size) → D a := fun a o e d => by
    rcases d with (d | rfl) | rfl
    · exact d
    · rw [hX2] at e; cases e
    · rw [hC2] at e; cases e
  obtain ⟨St, S, st⟩ := src (fun a => (D a ∨ a = s₂.heap.objs.size) ∨ a = s₃.heap.objs.size) hD'
  have ci : CompIn s scope (cellsFrom (s₃.heap.objs.size + 1) scope.names (freeCells env.cells scope.names [])) s₃.heap.objs.size s₂.heap.objs.size (fun a => (D a ∨ a = s₂.heap.objs.size) ∨ a = s₃.heap.objs.size) := by
    refine ⟨fun n m => ?_, hXC, .inl (.inr rfl), hX0⟩
    obtain ⟨c, hc, hge⟩ := cellsFrom_new scope.names (s₃.heap.objs.size + 1) (freeCells env.cells scope.names []) m
    exact ⟨c, hc, none_above k03 (by omega)⟩
  obtain ⟨body, tn, asg, hbody⟩ := hin s _ _ _ _ (keeps_refl s) ci
  have loop : codeAny (model prog w) A (.compLoop (.ListComp elt (⟨tg, iter, ifs, 0⟩ :: rest) scope pos) 0 it (.ref s₂.heap.objs.size) (compEnvC scope (cellsFrom (s₃.heap.objs.size + 1) scope.names (freeCells env.cells scope.names [])) s₃.heap.objs.size env))
      (compPost (model prog w) A NE use Q (.ref s₂.heap.objs.size) s₃.heap.objs.size) s₄ := by
    refine comp_loop (f := f) (ys := []) (tn it) S asg hb hXC newI (fun a m d => ?_) (fun x hx s₁ ys hE ha hl => hbody x hx s₁ ys hE ha (Nat.le_trans hl (by simpa using hsz))) E₄ ?_ ?_ fun s' E' a' _ _ => ?_
    · obtain ⟨o, vs, e, _⟩ := S.here st a m
      have := newI a m
      obtain ⟨o2, e2⟩ := X.live a (hD' a o e d)
      rw [this] at e2; cases e2
    · exact ⟨[], 0, keeps_get k34 hX3, .nil⟩
    · exact S.frame st (fun b o _ _ e => keeps_get (keeps_trans k2 k34) e) fun a m o e => keeps_get (keeps_trans k2 k34) e
    · refine hQ s' _ _ _ _ E'.kp hX0 hC0 hXC rfl E'.fm.ns E' (by simpa using a')
  exact codeAny_compStart_list loop (S.self (S.frame st (fun b o _ _ e => keeps_get (keeps_trans k2 k34) e) fun a m o e => keeps_get (keeps_trans k2 k34) e) loop)

theorem has_compT {elt tg iter : Expr} {ifs : List Expr} {rest : List Comprehension} {scope : Scope} {pos : Pos} {α β : Type} {T : Ty α} {U : Ty β} {bnd : Rho → α → Rho} {f : α → List β} {xs : List α} {fl : List Str}
    (X : Ex g s₀ D env s ρ) (hi : Iters prog w A D s iter env T tg xs) (cs : CompScope scope env fl) (hb : ∀ x z e, pick fl ρ z = some e → bnd (pick fl ρ) x z = some e) (hsz : (xs.flatMap f).length ≤ 9000)
    (hin : ∀ s' cl C X' D', Keeps s s' → CompIn s' scope cl C X' D' → ∃ body, (∀ it, Turns prog w A (.ListComp elt (⟨tg, iter, ifs, 0⟩ :: rest) scope pos) 0 it (.ref X') (compEnvC scope cl C env) tg body) ∧
      Asg prog w A g s' D' (compEnvC scope cl C env) tg T bnd ∧
      ∀ x ∈ xs, ∀ s₁ ys, Ex g s' D' (compEnvC scope cl C env) s₁ (bnd (pick fl ρ) x) → Acc U D' X' s₁.heap ys → ys.length ≤ 9000 →
        wpAny (model prog w) A body (fun _ s₂ => Ex g s' D' (compEnvC scope cl C env) s₂ (bnd (pick fl ρ) x) ∧ Acc U D' X' s₂.heap (ys ++ f x) ∧ Calm D' s₁ s₂) NE s₁)
    (hs : ∀ x, foldedSetIterable iter env x = pure x := by intro _; rfl) :
    Has prog w A D s (eval (.ListComp elt (⟨tg, iter, ifs, 0⟩ :: rest) scope pos) env) (tNew s U) (xs.flatMap f) := fun s' k l => by
  rw [eval_ListComp]
  refine comp_run (use := none) (X.up k) (fun s'' k' l' => hi s'' (keeps_trans k k') l') cs hb hsz (fun s'' cl C X' D' k' ci => hin s'' cl C X' D' (keeps_trans k k') ci) (fun s₅ C X' D' cl k5 hX hC hne hD' hns E' a' => ?_) hs
  obtain ⟨m, hn⟩ := hns
  refine ⟨m, hn, fun h' hs' => ?_⟩
  obtain ⟨vs, n, e, p⟩ := a'
  have hle : Le D' s₅.heap h' := le_of_sameBut hs' (.inl (by rw [hD']; exact .inr rfl))
  have kk : Keeps s' { s₅ with heap := h' } := by
    obtain ⟨h5, t5, rfl, hk5⟩ := k5
    exact ⟨h', t5, rfl, fun b o e => (hs'.2 b (fun q => by rw [q, hC] at e; cases e)).trans (hk5 b o e)⟩
  refine ⟨kk, X', n, vs, rfl, fun d => live_none l hX d, (hs'.2 X' hne).trans e, paired_mono (fun u y q => ?_) p, keeps_none k hX⟩
  exact U.wide (fun a o _ d => by rw [hD']; exact .inl (.inl d)) (U.mono hle q)

theorem has_comp {elt tg iter : Expr} {ifs : List Expr} {rest : List Comprehension} {scope : Scope} {pos : Pos} {α β : Type} {T : Ty α} {U : Ty β} {bnd : Rho → α → Rho} {f : α → List β} {xs : List α} {fl : List Str}
    (X : Ex g s₀ D env s ρ) (hi : Iters prog w A D s iter env T tg xs) (cs : CompScope scope env fl) (hb : ∀ x z e, pick fl ρ z = some e → bnd (pick fl ρ) x z = some e) (hsz : (xs.flatMap f).length ≤ 9000)
    (hin : ∀ s' cl C X' D', Keeps s s' → CompIn s' scope cl C X' D' → ∃ body, (∀ it, Turns prog w A (.ListComp elt (⟨tg, iter, ifs, 0⟩ :: rest) scope pos) 0 it (.ref X') (compEnvC scope cl C env) tg body) ∧
      Asg prog w A g s' D' (compEnvC scope cl C env) tg T bnd ∧
      ∀ x ∈ xs, ∀ s₁ ys, Ex g s' D' (compEnvC scope cl C env) s₁ (bnd (pick fl ρ) x) → Acc U D' X' s₁.heap ys → ys.length ≤ 9000 →
        wpAny (model prog w) A body (fun _ s₂ => Ex g s' D' (compEnvC scope cl C env) s₂ (bnd (pick fl ρ) x) ∧ Acc U D' X' s₂.heap (ys ++ f x) ∧ Calm D' s₁ s₂) NE s₁)
    (hs : ∀ x, foldedSetIterable iter env x = pure x := by intro _; rfl) :
    Has prog w A D s (eval (.ListComp elt (⟨tg, iter, ifs, 0⟩ :: rest) scope pos) env) (tList U) (xs.flatMap f) := (has_compT X hi cs hb hsz hin hs).old

/-- one clause, a test or none -/
theorem has_comp1T {elt tg iter : Expr} {ifs : List Expr} {scope : Scope} {pos : Pos} {α β : Type} {T : Ty α} {U : Ty β} {bnd : Rho → α → Rho} {p : α → Bool} {f : α → β} {xs : List α} {fl : List Str}
    (X : Ex g s₀ D env s ρ) (hi : Iters prog w A D s iter env T tg xs) (cs : CompScope scope env fl) (hb : ∀ x z e, pick fl ρ z = some e → bnd (pick fl ρ) x z = some e) (hsz : xs.length ≤ 9000)
    (ha : ∀ s' cl C X' D', Keeps s s' → CompIn s' scope cl C X' D' → Asg prog w A g s' D' (compEnvC scope cl C env) tg T bnd)
    (ht : ∀ x ∈ xs, ∀ s' cl C X' D' s₁, Keeps s s' → CompIn s' scope cl C X' D' → Ex g s' D' (compEnvC scope cl C env) s₁ (bnd (pick fl ρ) x) → Tests prog w A D' s₁ ifs (compEnvC scope cl C env) (p x))
    (he : ∀ x ∈ xs, p x = true → ∀ s' cl C X' D' s₁, Keeps s s' → CompIn s' scope cl C X' D' → Ex g s' D' (compEnvC scope cl C env) s₁ (bnd (pick fl ρ) x) → Has prog w A D' s₁ (eval elt (compEnvC scope cl C env)) U (f x))
    (hs : ∀ x, foldedSetIterable iter env x = pure x := by intro _; rfl) :
    Has prog w A D s (eval (.ListComp elt [⟨tg, iter, ifs, 0⟩] scope pos) env) (tNew s U) (xs.flatMap fun x => if p x then [f x] else []) := by
  refine has_compT X hi cs hb ?_ (fun s' cl C X' D' k ci => ⟨emit elt ifs (.ref X') (compEnvC scope cl C env), fun it => turns_one, ha s' cl C X' D' k ci, fun x hx s₁ ys hE ac hl => ?_⟩) hs
  · refine Nat.le_trans ?_ hsz
    clear hsz hi ht he
    induction xs with
    | nil => simp
    | cons x xs ih =>
      rw [List.flatMap_cons, List.length_append, List.length_cons]
      split
      · simp only [List.length_cons, List.length_nil]; omega
      · simp only [List.length_nil]; omega
  · exact emit_ok hE ac ci.ne ci.dX ci.nX (ht x hx s' cl C X' D' s₁ k ci hE) (fun hp => he x hx hp s' cl C X' D' s₁ k ci hE) (by omega)

theorem has_comp1 {elt tg iter : Expr} {ifs : List Expr} {scope : Scope} {pos : Pos} {α β : Type} {T : Ty α} {U : Ty β} {bnd : Rho → α → Rho} {p : α → Bool} {f : α → β} {xs : List α} {fl : List Str}
    (X : Ex g s₀ D env s ρ) (hi : Iters prog w A D s iter env T tg xs) (cs : CompScope scope env fl) (hb : ∀ x z e, pick fl ρ z = some e → bnd (pick fl ρ) x z = some e) (hsz : xs.length ≤ 9000)
    (ha : ∀ s' cl C X' D', Keeps s s' → CompIn s' scope cl C X' D' → Asg prog w A g s' D' (compEnvC scope cl C env) tg T bnd)
    (ht : ∀ x ∈ xs, ∀ s' cl C X' D' s₁, Keeps s s' → CompIn s' scope cl C X' D' → Ex g s' D' (compEnvC scope cl C env) s₁ (bnd (pick fl ρ) x) → Tests prog w A D' s₁ ifs (compEnvC scope cl C env) (p x))
    (he : ∀ x ∈ xs, p x = true → ∀ s' cl C X' D' s₁, Keeps s s' → CompIn s' scope cl C X' D' → Ex g s' D' (compEnvC scope cl C env) s₁ (bnd (pick fl ρ) x) → Has prog w A D' s₁ (eval elt (compEnvC scope cl C env)) U (f x))
    (hs : ∀ x, foldedSetIterable iter env x = pure x := by intro _; rfl) :
    Has prog w A D s (eval (.ListComp elt [⟨tg, iter, ifs, 0⟩] scope pos) env) (tList U) (xs.flatMap fun x => if p x then [f x] else []) := (has_comp1T X hi cs hb hsz ha ht he hs).old

theorem flatMap_filter {α β : Type} (p : α → Bool) (f : α → β) : ∀ xs : List α, (xs.flatMap fun x => if p x then [f x] else []) = (xs.filter p).map f
  | [] => rfl
  | x :: xs => by
    rw [List.flatMap_cons, flatMap_filter p f xs, List.filter_cons]
    split <;> simp
end
end Mine

end
section

open PySem PySem.W PyProof.Rows PySem.Calls
namespace Mine
section
variable {prog : Program} {w : World} {A : Around} {D : Addr → Prop} {s s₁ s₂ s₀ : Shared} {g : Heap} {env : Env} {ρ : Rho} {mg mb : Str → Option Value}

theorem Ex.retype {x : Str} {α β : Type} {T : Ty α} {y : α} {U : Ty β} {z : β} (X : Ex g s₀ D env s (upd ρ x ⟨T, y⟩)) (h : ∀ v, T.is D s.heap v y → U.is D s.heap v z) : Ex g s₀ D env s (upd ρ x ⟨U, z⟩) :=
  ⟨X.sub, X.kp, X.live, ⟨X.fm.kind, X.fm.ns, X.fm.newL, X.fm.volL, X.fm.cells, X.fm.apart, X.fm.cellOk, X.fm.glob, fun n e q => by
    unfold upd at q
    split at q
    · rename_i hn
      cases q
      subst hn
      obtain ⟨v, a, b⟩ := X.fm.names n _ (if_pos rfl)
      exact ⟨v, a, h v b⟩
    · rename_i hn
      exact X.fm.names n e (by unfold upd; rw [if_neg hn]; exact q)⟩⟩

/-- a name store whose list is made by a comprehension, on the road that stores ahead of the clean-up -/
theorem ex_assign_compM {y : Str} {py spos : Pos} {elt tg iter : Expr} {ifs : List Expr} {rest : List Comprehension} {scope : Scope} {pos : Pos} {α β : Type} {T : Ty α} {U : Ty β} {bnd : Rho → α → Rho} {f : α → List β} {xs : List α} {fl : List Str}
    {Q : Flow → Shared → Prop} {E : Value → Shared → Prop} (X : Ex g s₀ D env s ρ) (o : Own s₀ env y) (hi : Iters prog w A D s iter env T tg xs) (cs : CompScope scope env fl) (hb : ∀ x z e, pick fl ρ z = some e → bnd (pick fl ρ) x z = some e) (hsz : (xs.flatMap f).length ≤ 9000)
    (hin : ∀ s' cl C X' D', Keeps s s' → CompIn s' scope cl C X' D' → ∃ body, (∀ it, Turns prog w A (.ListComp elt (⟨tg, iter, ifs, 0⟩ :: rest) scope pos) 0 it (.ref X') (compEnvC scope cl C env) tg body) ∧
      Asg prog w A g s' D' (compEnvC scope cl C env) tg T bnd ∧
      ∀ x ∈ xs, ∀ s₁ ys, Ex g s' D' (compEnvC scope cl C env) s₁ (bnd (pick fl ρ) x) → Acc U D' X' s₁.heap ys → ys.length ≤ 9000 →
        wpAny (model prog w) A body (fun _ s₂ => Ex g s' D' (compEnvC scope cl C env) s₂ (bnd (pick fl ρ) x) ∧ Acc U D' X' s₂.heap (ys ++ f x) ∧ Calm D' s₁ s₂) NE s₁)
    (h : ∀ s' p, s.heap.get? p = none → Ex g s₀ (Plus D p) env s' (upd ρ y ⟨tVal, .ref p⟩) → Acc U (Plus D p) p s'.heap (xs.flatMap f) → p ≠ env.locals → Others D env s s' → Q .next s')
    (hsw : swapsWith (.ListComp elt (⟨tg, iter, ifs, 0⟩ :: rest) scope pos) (some (.Name y py)) spos.line env = pure true := by rfl)
    (hs : ∀ x, foldedSetIterable iter env x = pure x := by intro _; rfl) :
    wpAny (model prog w) A (exec (.Assign [.Name y py] (.ListComp elt (⟨tg, iter, ifs, 0⟩ :: rest) scope pos) spos) env) Q E s := by
  rw [exec_Assign_Name_used _ _ _ _ hsw]
  refine wpAny_bind (wpAny_standAt (wpAny_bind ?_))
  show wpAny _ A (do let _ ← comprehension (.ListComp elt (⟨tg, iter, ifs, 0⟩ :: rest) scope pos) scope env _ (newList []) false (eval iter env) (some (assign (.Name y py) env))) _ _ s
  refine wpAny_bind (wpAny_mono (comp_run (use := some (assign (.Name y py) env)) (Q := fun _ s' => Q .next s') X hi cs hb hsz hin (fun s' C X' D' cl k hX hC hne hD' hns E' a' => ?_) hs) (fun _ s' q => wpAny_pure (wpAny_pure q)) fun _ _ e => e.elim)
  show wpAny _ A (assign (.Name y py) env (.ref X')) _ _ s'
  obtain ⟨m, hn⟩ := hns
  obtain ⟨vs, n, e, p⟩ := a'
  have hD1 : ∀ a o, s.heap.get? a = some o → (Plus D X' a ∨ a = C) → D a := fun a oa ea d => by
    rcases d with (d | d) | d
    · exact d
    · rw [d, hX] at ea; cases ea
    · rw [d, hC] at ea; cases ea
  have hl1 : Live (fun a => Plus D X' a ∨ a = C) s'.heap := fun a d => E'.live a (by rw [hD']; exact d)
  have X1 := X.grow k hD1 hl1 (.inl (.inl X.fm.volL))
  have hCL : C ≠ env.locals := by
    rintro rfl
    obtain ⟨m0, o0, _, _, e0, _⟩ := X.fm.ns
    rw [hC] at e0; cases e0
  have hXL : X' ≠ env.locals := by
    rintro rfl
    obtain ⟨m0, o0, _, _, e0, _⟩ := X.fm.ns
    rw [hX] at e0; cases e0
  refine wpAny_assign_Name (X1.store (T := tVal) (y := .ref X') o rfl fun s'' X2 ot => ?_)
  obtain ⟨oC, es, ep, eC, dC, rC⟩ := id hn
  have eC'' : s''.heap.get? C = some oC := ot.still C oC eC hCL fun v q => by rw [dC] at q; cases q
  refine ⟨m, ⟨oC, es, ep, eC'', dC, rC⟩, fun h' hs' => ?_⟩
  have sC : s.heap.get? C = none := hC
  have old : ∀ a ob, s.heap.get? a = some ob → a ≠ C := fun a ob ea q => by rw [q, sC] at ea; cases ea
  have hle : Le (fun a => Plus D X' a ∨ a = C) s''.heap h' := le_of_sameBut hs' (.inl (.inr rfl))
  refine h _ X' hX ⟨X2.sub, ?_, ?_, ⟨X2.fm.kind, ?_, X2.fm.newL, .inl X.fm.volL, fun x c q => ?_, X2.fm.apart, X2.fm.cellOk, X2.fm.glob, fun x ee q => ?_⟩⟩ ⟨vs, n, (hs'.2 X' hne).trans (ot.still X' _ e hXL fun v q => by cases q), paired_mono (fun u z q => ?_) p⟩ hXL ⟨fun a ob ea na nc => ?_, ?_, fun a ob vs ea d => ?_⟩
  · obtain ⟨h2, t2, rfl, hk2⟩ := X2.kp
    exact ⟨h', t2, rfl, fun b ob eb => (hs'.2 b fun q => by
      have := keeps_get X.kp eb
      rw [q, sC] at this; cases this).trans (hk2 b ob eb)⟩
  · intro a d
    obtain ⟨ob, ea⟩ := X2.live a (.inl d)
    refine ⟨ob, (hs'.2 a fun q => ?_).trans ea⟩
    rcases d with d | d
    · exact live_none X.live sC (q ▸ d)
    · exact hne (d.symm.trans q)
  · obtain ⟨m2, hn2⟩ := X2.fm.ns
    exact ⟨m2, hn2.sameBut hs' (Ne.symm hCL)⟩
  · obtain ⟨v, hv⟩ := X2.fm.cells x c q
    refine ⟨v, hv.sameBut hs' fun z => ?_⟩
    obtain ⟨o3, e3, d3⟩ := hv
    rw [z, eC''] at e3; cases e3
    rw [dC] at d3; cases d3
  · obtain ⟨v, hv, ht⟩ := X2.fm.names x ee q
    refine ⟨v, ?_, ee.T.wide (fun a _ _ d => .inl d) (ee.T.mono hle ht)⟩
    rcases hv with ⟨q1, m2, hn2, hm2⟩ | ⟨q1, c, hc, hcv⟩
    · exact .inl ⟨q1, m2, hn2.sameBut hs' (Ne.symm hCL), hm2⟩
    · refine .inr ⟨q1, c, hc, hcv.sameBut hs' fun z => ?_⟩
      obtain ⟨o3, e3, d3⟩ := hcv
      rw [z, eC''] at e3; cases e3
      rw [dC] at d3; cases d3
  · refine U.wide (fun a _ _ d => .inl d) (U.mono hle (U.mono ot.calm.le (U.wide (fun a _ _ d => ?_) q)))
    rw [hD']; exact d
  · exact (hs'.2 a (old a ob ea)).trans (ot.still a ob (keeps_get k ea) na nc)
  · exact fun a ob nd f ea => (hs'.2 a (old a ob ea)).trans (ot.calm.le a ob (fun d => nd (hD1 a ob ea d)) f (keeps_get k ea))
  · exact (hs'.2 a (old a ob ea)).trans (ot.calm.fields a ob vs (keeps_get k ea) d)

/-- a list of the frame's own that turns no more -/
theorem Ex.freeze {x : Str} {p : Addr} {α : Type} {U : Ty α} {ys : List α} {D' : Addr → Prop} (X : Ex g s₀ D' env s (upd ρ x ⟨tVal, .ref p⟩)) (a : Acc U D' p s.heap ys) (hD : ∀ b o, s.heap.get? b = some o → D b → D' b) (hp : ¬ D p) (hL : D env.locals) (hl : Live D s.heap) (n : s₁.heap.get? p = none) :
    Ex g s₀ D env s (upd ρ x ⟨tNew s₁ U, ys⟩) :=
  (X.wide hD hl hL).retype fun v e => by
    obtain ⟨vs, m, e', q⟩ := a
    exact ⟨p, m, vs, e, hp, e', paired_mono (fun _ _ => U.wide hD) q, n⟩

theorem ex_assign_compT {y : Str} {py spos : Pos} {elt tg iter : Expr} {ifs : List Expr} {rest : List Comprehension} {scope : Scope} {pos : Pos} {α β : Type} {T : Ty α} {U : Ty β} {bnd : Rho → α → Rho} {f : α → List β} {xs : List α} {fl : List Str}
    {Q : Flow → Shared → Prop} {E : Value → Shared → Prop} (X : Ex g s₀ D env s ρ) (o : Own s₀ env y) (hi : Iters prog w A D s iter env T tg xs) (cs : CompScope scope env fl) (hb : ∀ x z e, pick fl ρ z = some e → bnd (pick fl ρ) x z = some e) (hsz : (xs.flatMap f).length ≤ 9000)
    (hin : ∀ s' cl C X' D', Keeps s s' → CompIn s' scope cl C X' D' → ∃ body, (∀ it, Turns prog w A (.ListComp elt (⟨tg, iter, ifs, 0⟩ :: rest) scope pos) 0 it (.ref X') (compEnvC scope cl C env) tg body) ∧
      Asg prog w A g s' D' (compEnvC scope cl C env) tg T bnd ∧
      ∀ x ∈ xs, ∀ s₁ ys, Ex g s' D' (compEnvC scope cl C env) s₁ (bnd (pick fl ρ) x) → Acc U D' X' s₁.heap ys → ys.length ≤ 9000 →
        wpAny (model prog w) A body (fun _ s₂ => Ex g s' D' (compEnvC scope cl C env) s₂ (bnd (pick fl ρ) x) ∧ Acc U D' X' s₂.heap (ys ++ f x) ∧ Calm D' s₁ s₂) NE s₁)
    (h : ∀ s', Ex g s₀ D env s' (upd ρ y ⟨tNew s U, xs.flatMap f⟩) → Others D env s s' → Q .next s')
    (hsw : swapsWith (.ListComp elt (⟨tg, iter, ifs, 0⟩ :: rest) scope pos) (some (.Name y py)) spos.line env = pure true := by rfl)
    (hs : ∀ x, foldedSetIterable iter env x = pure x := by intro _; rfl) :
    wpAny (model prog w) A (exec (.Assign [.Name y py] (.ListComp elt (⟨tg, iter, ifs, 0⟩ :: rest) scope pos) spos) env) Q E s :=
  ex_assign_compM X o hi cs hb hsz hin (fun s' p hp X' a hL ot => h s' (X'.freeze a (fun _ _ _ d => .inl d) (fun d => live_none X.live hp d) X.fm.volL (fun b d => X'.live b (.inl d)) hp) ot) hsw hs

theorem ex_assign_comp {y : Str} {py spos : Pos} {elt tg iter : Expr} {ifs : List Expr} {rest : List Comprehension} {scope : Scope} {pos : Pos} {α β : Type} {T : Ty α} {U : Ty β} {bnd : Rho → α → Rho} {f : α → List β} {xs : List α} {fl : List Str}
    {Q : Flow → Shared → Prop} {E : Value → Shared → Prop} (X : Ex g s₀ D env s ρ) (o : Own s₀ env y) (hi : Iters prog w A D s iter env T tg xs) (cs : CompScope scope env fl) (hb : ∀ x z e, pick fl ρ z = some e → bnd (pick fl ρ) x z = some e) (hsz : (xs.flatMap f).length ≤ 9000)
    (hin : ∀ s' cl C X' D', Keeps s s' → CompIn s' scope cl C X' D' → ∃ body, (∀ it, Turns prog w A (.ListComp elt (⟨tg, iter, ifs, 0⟩ :: rest) scope pos) 0 it (.ref X') (compEnvC scope cl C env) tg body) ∧
      Asg prog w A g s' D' (compEnvC scope cl C env) tg T bnd ∧
      ∀ x ∈ xs, ∀ s₁ ys, Ex g s' D' (compEnvC scope cl C env) s₁ (bnd (pick fl ρ) x) → Acc U D' X' s₁.heap ys → ys.length ≤ 9000 →
        wpAny (model prog w) A body (fun _ s₂ => Ex g s' D' (compEnvC scope cl C env) s₂ (bnd (pick fl ρ) x) ∧ Acc U D' X' s₂.heap (ys ++ f x) ∧ Calm D' s₁ s₂) NE s₁)
    (h : ∀ s', Ex g s₀ D env s' (upd ρ y ⟨tList U, xs.flatMap f⟩) → Others D env s s' → Q .next s')
    (hsw : swapsWith (.ListComp elt (⟨tg, iter, ifs, 0⟩ :: rest) scope pos) (some (.Name y py)) spos.line env = pure true := by rfl)
    (hs : ∀ x, foldedSetIterable iter env x = pure x := by intro _; rfl) :
    wpAny (model prog w) A (exec (.Assign [.Name y py] (.ListComp elt (⟨tg, iter, ifs, 0⟩ :: rest) scope pos) spos) env) Q E s :=
  ex_assign_compT X o hi cs hb hsz hin (fun s' X' ot => h s' (X'.retype fun _ => tNew_old) ot) hsw hs

/-- the same, one clause -/
theorem ex_assign_comp1M {y : Str} {py spos : Pos} {elt tg iter : Expr} {ifs : List Expr} {scope : Scope} {pos : Pos} {α β : Type} {T : Ty α} {U : Ty β} {bnd : Rho → α → Rho} {p : α → Bool} {f : α → β} {xs : List α} {fl : List Str}
    {Q : Flow → Shared → Prop} {E : Value → Shared → Prop} (X : Ex g s₀ D env s ρ) (o : Own s₀ env y) (hi : Iters prog w A D s iter env T tg xs) (cs : CompScope scope env fl) (hb : ∀ x z e, pick fl ρ z = some e → bnd (pick fl ρ) x z = some e) (hsz : xs.length ≤ 9000)
    (ha : ∀ s' cl C X' D', Keeps s s' → CompIn s' scope cl C X' D' → Asg prog w A g s' D' (compEnvC scope cl C env) tg T bnd)
    (ht : ∀ x ∈ xs, ∀ s' cl C X' D' s₁, Keeps s s' → CompIn s' scope cl C X' D' → Ex g s' D' (compEnvC scope cl C env) s₁ (bnd (pick fl ρ) x) → Tests prog w A D' s₁ ifs (compEnvC scope cl C env) (p x))
    (he : ∀ x ∈ xs, p x = true → ∀ s' cl C X' D' s₁, Keeps s s' → CompIn s' scope cl C X' D' → Ex g s' D' (compEnvC scope cl C env) s₁ (bnd (pick fl ρ) x) → Has prog w A D' s₁ (eval elt (compEnvC scope cl C env)) U (f x))
    (h : ∀ s' q, s.heap.get? q = none → Ex g s₀ (Plus D q) env s' (upd ρ y ⟨tVal, .ref q⟩) → Acc U (Plus D q) q s'.heap ((xs.filter p).map f) → q ≠ env.locals → Others D env s s' → Q .next s')
    (hsw : swapsWith (.ListComp elt [⟨tg, iter, ifs, 0⟩] scope pos) (some (.Name y py)) spos.line env = pure true := by rfl)
    (hs : ∀ x, foldedSetIterable iter env x = pure x := by intro _; rfl) :
    wpAny (model prog w) A (exec (.Assign [.Name y py] (.ListComp elt [⟨tg, iter, ifs, 0⟩] scope pos) spos) env) Q E s := by
  refine ex_assign_compM (f := fun x => if p x then [f x] else []) X o hi cs hb ?_ (fun s' cl C X' D' k ci => ⟨emit elt ifs (.ref X') (compEnvC scope cl C env), fun it => turns_one, ha s' cl C X' D' k ci, fun x hx s₁ ys hE ac hl => ?_⟩) (fun s' q hq X' a hL ot => h s' q hq X' (by rw [flatMap_filter] at a; exact a) hL ot) hsw hs
  · rw [flatMap_filter, List.length_map]
    exact Nat.le_trans (List.length_filter_le _ _) hsz
  · exact emit_ok hE ac ci.ne ci.dX ci.nX (ht x hx s' cl C X' D' s₁ k ci hE) (fun hp => he x hx hp s' cl C X' D' s₁ k ci hE) (by omega)

theorem ex_assign_comp1T {y : Str} {py spos : Pos} {elt tg iter : Expr} {ifs : List Expr} {scope : Scope} {pos : Pos} {α β : Type} {T : Ty α} {U : Ty β} {bnd : Rho → α → Rho} {p : α → Bool} {f : α → β} {xs : List α} {fl : List Str}
    {Q : Flow → Shared → Prop} {E : Value → Shared → Prop} (X : Ex g s₀ D env s ρ) (o : Own s₀ env y) (hi : Iters prog w A D s iter env T tg xs) (cs : CompScope scope env fl) (hb : ∀ x z e, pick fl ρ z = some e → bnd (pick fl ρ) x z = some e) (hsz : xs.length ≤ 9000)
    (ha : ∀ s' cl C X' D', Keeps s s' → CompIn s' scope cl C X' D' → Asg prog w A g s' D' (compEnvC scope cl C env) tg T bnd)
    (ht : ∀ x ∈ xs, ∀ s' cl C X' D' s₁, Keeps s s' → CompIn s' scope cl C X' D' → Ex g s' D' (compEnvC scope cl C env) s₁ (bnd (pick fl ρ) x) → Tests prog w A D' s₁ ifs (compEnvC scope cl C env) (p x))
    (he : ∀ x ∈ xs, p x = true → ∀ s' cl C X' D' s₁, Keeps s s' → CompIn s' scope cl C X' D' → Ex g s' D' (compEnvC scope cl C env) s₁ (bnd (pick fl ρ) x) → Has prog w A D' s₁ (eval elt (compEnvC scope cl C env)) U (f x))
    (h : ∀ s', Ex g s₀ D env s' (upd ρ y ⟨tNew s U, (xs.filter p).map f⟩) → Others D env s s' → Q .next s')
    (hsw : swapsWith (.ListComp elt [⟨tg, iter, ifs, 0⟩] scope pos) (some (.Name y py)) spos.line env = pure true := by rfl)
    (hs : ∀ x, foldedSetIterable iter env x = pure x := by intro _; rfl) :
    wpAny (model prog w) A (exec (.Assign [.Name y py] (.ListComp elt [⟨tg, iter, ifs, 0⟩] scope pos) spos) env) Q E s := by
  refine ex_assign_compT (f := fun x => if p x then [f x] else []) X o hi cs hb ?_ (fun s' cl C X' D' k ci => ⟨emit elt ifs (.ref X') (compEnvC scope cl C env), fun it => turns_one, ha s' cl C X' D' k ci, fun x hx s₁ ys hE ac hl => ?_⟩) (fun s' X' ot => h s' (by rw [flatMap_filter] at X'; exact X') ot) hsw hs
  · rw [flatMap_filter, List.length_map]
    exact Nat.le_trans (List.length_filter_le _ _) hsz
  · exact emit_ok hE ac ci.ne ci.dX ci.nX (ht x hx s' cl C X' D' s₁ k ci hE) (fun hp => he x hx hp s' cl C X' D' s₁ k ci hE) (by omega)

/-- the same, one clause -/
theorem ex_assign_comp1 {y : Str} {py spos : Pos} {elt tg iter : Expr} {ifs : List Expr} {scope : Scope} {pos : Pos} {α β : Type} {T : Ty α} {U : Ty β} {bnd : Rho → α → Rho} {p : α → Bool} {f : α → β} {xs : List α} {fl : List Str}
    {Q : Flow → Shared → Prop} {E : Value → Shared → Prop} (X : Ex g s₀ D env s ρ) (o : Own s₀ env y) (hi : Iters prog w A D s iter env T tg xs) (cs : CompScope scope env fl) (hb : ∀ x z e, pick fl ρ z = some e → bnd (pick fl ρ) x z = some e) (hsz : xs.length ≤ 9000)
    (ha : ∀ s' cl C X' D', Keeps s s' → CompIn s' scope cl C X' D' → Asg prog w A g s' D' (compEnvC scope cl C env) tg T bnd)
    (ht : ∀ x ∈ xs, ∀ s' cl C X' D' s₁, Keeps s s' → CompIn s' scope cl C X' D' → Ex g s' D' (compEnvC scope cl C env) s₁ (bnd (pick fl ρ) x) → Tests prog w A D' s₁ ifs (compEnvC scope cl C env) (p x))
    (he : ∀ x ∈ xs, p x = true → ∀ s' cl C X' D' s₁, Keeps s s' → CompIn s' scope cl C X' D' → Ex g s' D' (compEnvC scope cl C env) s₁ (bnd (pick fl ρ) x) → Has prog w A D' s₁ (eval elt (compEnvC scope cl C env)) U (f x))
    (h : ∀ s', Ex g s₀ D env s' (upd ρ y ⟨tList U, (xs.filter p).map f⟩) → Others D env s s' → Q .next s')
    (hsw : swapsWith (.ListComp elt [⟨tg, iter, ifs, 0⟩] scope pos) (some (.Name y py)) spos.line env = pure true := by rfl)
    (hs : ∀ x, foldedSetIterable iter env x = pure x := by intro _; rfl) :
    wpAny (model prog w) A (exec (.Assign [.Name y py] (.ListComp elt [⟨tg, iter, ifs, 0⟩] scope pos) spos) env) Q E s := by
  refine ex_assign_comp (f := fun x => if p x then [f x] else []) X o hi cs hb ?_ (fun s' cl C X' D' k ci => ⟨emit elt ifs (.ref X') (compEnvC scope cl C env), fun it => turns_one, ha s' cl C X' D' k ci, fun x hx s₁ ys hE ac hl => ?_⟩) (fun s' X' ot => h s' (by rw [flatMap_filter] at X'; exact X') ot) hsw hs
  · rw [flatMap_filter, List.length_map]
    exact Nat.le_trans (List.length_filter_le _ _) hsz
  · exact emit_ok hE ac ci.ne ci.dX ci.nX (ht x hx s' cl C X' D' s₁ k ci hE) (fun hp => he x hx hp s' cl C X' D' s₁ k ci hE) (by omega)

-- two clauses
/-- the end of a turn of the outer clause: the inner clause run -/
def inner (e : Expr) (it1 : Expr) (acc : Value) (env : Env) : Sem Unit := do
  let x ← eval it1 env
  standAt it1.pos
  let x ← foldedSetIterable it1 env x
  let _ ← runOwn (.compStart e 1 (← holding [x] (pyIter x)) acc env) env
  pure ()

theorem turns_outer {elt it0 it1 tg0 tg1 : Expr} {ifs1 : List Expr} {scope : Scope} {pos : Pos} {it acc : Value} :
    Turns prog w A (.ListComp elt [⟨tg0, it0, [], 0⟩, ⟨tg1, it1, ifs1, 0⟩] scope pos) 0 it acc env tg0 (inner (.ListComp elt [⟨tg0, it0, [], 0⟩, ⟨tg1, it1, ifs1, 0⟩] scope pos) it1 acc env) := fun s Q h => by
  have e : compTurn (.ListComp elt [⟨tg0, it0, [], 0⟩, ⟨tg1, it1, ifs1, 0⟩] scope pos) 0 it acc env = (standAt it0.pos >>= fun _ => pyNext it >>= fun r => match r with
      | none => pure (.done .next)
      | some v => letOwnedTupleGo tg0 it v >>= fun _ => assign tg0 env v >>= fun _ => eval it1 env >>= fun x => standAt it1.pos >>= fun _ => foldedSetIterable it1 env x >>= fun x => holding [x] (pyIter x) >>= fun i =>
          runOwn (.compStart (.ListComp elt [⟨tg0, it0, [], 0⟩, ⟨tg1, it1, ifs1, 0⟩] scope pos) 1 i acc env) env >>= fun _ =>
          again (.compLoop (.ListComp elt [⟨tg0, it0, [], 0⟩, ⟨tg1, it1, ifs1, 0⟩] scope pos) 0 it acc env)) := by rfl
  rw [e]
  refine wpAny_bind (wpAny_standAt (wpAny_bind (wpAny_mono h (fun r s₁ h₁ => ?_) fun _ _ e => e)))
  rcases h₁ with ⟨rfl, h₁⟩ | ⟨v, rfl, h₁⟩
  · exact wpAny_pure h₁
  · refine wpAny_bind (wpAny_mono h₁ (fun _ s₂ h₂ => wpAny_bind (wpAny_mono h₂ (fun _ s₃ h₃ => ?_) fun _ _ e => e)) fun _ _ e => e)
    unfold inner at h₃
    intro Γ p hΓ
    have h₃' := h₃ Γ p hΓ
    simp only [Sem.wp_bind', Sem.wp_pure'] at h₃' ⊢
    exact h₃'

theorem turns_inner {elt it0 it1 tg0 tg1 : Expr} {ifs0 ifs1 : List Expr} {scope : Scope} {pos : Pos} {it acc : Value} :
    Turns prog w A (.ListComp elt [⟨tg0, it0, ifs0, 0⟩, ⟨tg1, it1, ifs1, 0⟩] scope pos) 1 it acc env tg1 (emit elt ifs1 acc env) := fun s Q h => by
  have e : compTurn (.ListComp elt [⟨tg0, it0, ifs0, 0⟩, ⟨tg1, it1, ifs1, 0⟩] scope pos) 1 it acc env = (do
      standAt it1.pos
      match ← pyNext it with
      | none => pure (.done .next)
      | some v =>
        letOwnedTupleGo tg1 it v
        assign tg1 env v
        let mut ok := true
        for c in ifs1 do
          if ok then ok ← isTrue c env (eval c env)
        if ok then
          (do let _ ← call (.builtin "list.append") [acc, ← eval elt env])
        again (.compLoop (.ListComp elt [⟨tg0, it0, ifs0, 0⟩, ⟨tg1, it1, ifs1, 0⟩] scope pos) 1 it acc env)) := by rfl
  rw [e]
  refine wpAny_bind (wpAny_standAt (wpAny_bind (wpAny_mono h (fun r s₁ h₁ => ?_) fun _ _ e => e)))
  rcases h₁ with ⟨rfl, h₁⟩ | ⟨v, rfl, h₁⟩
  · exact wpAny_pure h₁
  · refine wpAny_bind (wpAny_mono h₁ (fun _ s₂ h₂ => wpAny_bind (wpAny_mono h₂ (fun _ s₃ h₃ => ?_) fun _ _ e => e)) fun _ _ e => e)
    intro Γ p hΓ
    have h₃' := h₃ Γ p hΓ
    unfold emit at h₃'
    rw [Sem.wp_bind'] at h₃' ⊢
    refine Sem.wp_mono _ Γ _ (fun ok p' s₄ h₄ => ?_) (fun _ _ _ e => e) p s₃ h₃'
    cases ok with
    | false => exact h₄
    | true =>
      simp only [if_true] at h₄ ⊢
      rw [Sem.wp_bind'] at h₄ ⊢
      rw [Sem.wp_bind']
      refine Sem.wp_mono _ Γ _ (fun x p'' s₅ h₅ => ?_) (fun _ _ _ e => e) p' s₄ h₄
      rw [Sem.wp_bind'] at h₅ ⊢
      refine Sem.wp_mono _ Γ _ (fun x p'' s₅ h₅ => ?_) (fun _ _ _ e => e) p'' s₅ h₅
      exact h₅

theorem codeAny_compStart1 {elt it0 it1 tg0 tg1 : Expr} {ifs0 ifs1 : List Expr} {scope : Scope} {pos : Pos} {it acc : Value} {R : Result → Shared → Prop}
    (h0 : codeAny (model prog w) A (.compLoop (.ListComp elt [⟨tg0, it0, ifs0, 0⟩, ⟨tg1, it1, ifs1, 0⟩] scope pos) 1 it acc env) R s)
    (h : wpAny (model prog w) A (pyIter it) (fun it' s' => codeAny (model prog w) A (.compLoop (.ListComp elt [⟨tg0, it0, ifs0, 0⟩, ⟨tg1, it1, ifs1, 0⟩] scope pos) 1 it' acc env) R s') NE s) :
    codeAny (model prog w) A (.compStart (.ListComp elt [⟨tg0, it0, ifs0, 0⟩, ⟨tg1, it1, ifs1, 0⟩] scope pos) 1 it acc env) R s := by
  refine codeAny_of_tree ?_
  show wpAny _ _ ((compStart (.ListComp elt [⟨tg0, it0, ifs0, 0⟩, ⟨tg1, it1, ifs1, 0⟩] scope pos) 1 it acc env).onRaise (fun x => do noteFrame x env; standAt theWindowsPlace)) _ _ s
  refine wpAny_notedAt (noted_ne (E := fun _ _ => True) ?_)
  unfold compStart
  show wpAny _ _ (ask >>= _) _ _ s
  refine wpAny_bind (wpAny_askSetting (wpAny_ite ?_))
  split
  · first
      | exact wpAny_bind (wpAny_pure (wpAny_pure (And.intro rfl h0)))
      | exact wpAny_pure (And.intro rfl h0)
  · first
      | exact wpAny_bind (wpAny_rule (wpAny_bind (wpAny_standAt (wpAny_bind (wpAny_mono h (fun it' s' h' => wpAny_pure (And.intro rfl h')) fun _ _ x => x)))))
      | (refine wpAny_bind (wpAny_rule ?_); show wpAny _ _ (standAt it1.pos >>= _) _ _ s; exact wpAny_bind (wpAny_standAt (wpAny_bind (wpAny_mono h (fun it' s' h' => wpAny_pure (And.intro rfl h')) fun _ _ x => x))))

/-- the inner clause, run whole -/
theorem inner_ok {elt it0 it1 tg0 tg1 : Expr} {ifs0 ifs1 : List Expr} {scope : Scope} {pos : Pos} {X : Addr} {α β : Type} {T : Ty α} {U : Ty β} {bnd : Rho → α → Rho} {p : α → Bool} {f : α → β} {xs : List α} {ys : List β}
    (E₀ : Ex g s₀ D env s ρ) (a₀ : Acc U D X s.heap ys) (hX : X ≠ env.locals) (dX : D X) (nX : s₀.heap.get? X = none)
    (hi : Iters prog w A D s it1 env T tg1 xs) (ha : Asg prog w A g s₀ D env tg1 T bnd) (hb : ∀ x z e, ρ z = some e → bnd ρ x z = some e) (hsz : ys.length + xs.length ≤ 10000)
    (ht : ∀ x ∈ xs, ∀ s₁, Ex g s₀ D env s₁ (bnd ρ x) → Tests prog w A D s₁ ifs1 env (p x))
    (he : ∀ x ∈ xs, p x = true → ∀ s₁, Ex g s₀ D env s₁ (bnd ρ x) → Has prog w A D s₁ (eval elt env) U (f x))
    (hs : ∀ x, foldedSetIterable it1 env x = pure x := by intro _; rfl) :
    wpAny (model prog w) A (inner (.ListComp elt [⟨tg0, it0, ifs0, 0⟩, ⟨tg1, it1, ifs1, 0⟩] scope pos) it1 (.ref X) env) (fun _ s₂ => Ex g s₀ D env s₂ ρ ∧ Acc U D X s₂.heap (ys ++ xs.flatMap fun x => if p x then [f x] else []) ∧ Calm D s s₂) NE s := by
  unfold inner
  refine wpAny_bind (wpAny_mono (hi s (keeps_refl s) E₀.live) (fun v s₁ h => ?_) fun _ _ e => e)
  refine wpAny_bind (wpAny_standAt (wpAny_bind (wpAny_of_eq (hs v) (wpAny_bind (wpAny_holding (wpAny_mono h (fun it s₂ h => ?_) fun _ _ e => e))))))
  obtain ⟨k, I, newI, src⟩ := h
  obtain ⟨St, S, st⟩ := src D fun _ _ _ d => d
  have lenf : ∀ l : List α, (l.flatMap fun x => if p x then [f x] else []).length ≤ l.length := fun l => by
    rw [flatMap_filter, List.length_map]; exact List.length_filter_le _ _
  have newI' : ∀ a ∈ I, s₀.heap.get? a = none := fun a m => by
    cases e : s₀.heap.get? a with
    | none => rfl
    | some o => have := keeps_get E₀.kp e; rw [newI a m] at this; cases this
  have E₂ := E₀.up k
  have loop : codeAny (model prog w) A (.compLoop (.ListComp elt [⟨tg0, it0, ifs0, 0⟩, ⟨tg1, it1, ifs1, 0⟩] scope pos) 1 it (.ref X) env) (fun r s' => r = .ok .next ∧ Ex g s₀ D env s' ρ ∧ Acc U D X s'.heap (ys ++ xs.flatMap fun x => if p x then [f x] else []) ∧ Calm D s s') s₂ :=
    comp_loop turns_inner S ha hb hX newI' (fun a m => live_none E₀.live (newI a m)) (fun x hx s₁ ys' hE ac hl => emit_ok hE ac hX dX nX (ht x hx s₁ hE) (fun q => he x hx q s₁ hE) (by
      have := lenf xs
      rw [List.length_append] at hl
      omega)) E₂ (acc_keeps a₀ k) st fun s' E' a' c' l' => ⟨rfl, E', a', fun b o nd f e => l' b o nd f (keeps_get k e), fun a o vs e d => c' a o vs (fun m => by rw [newI a m] at e; cases e) (keeps_get k e) d⟩
  refine wpAny_bind (wpAny_runOwn (codeAny_mono (codeAny_compStart1 loop (S.self st loop)) fun r s' h => ?_))
  obtain ⟨rfl, h⟩ := h
  exact wpAny_pure h
end
end Mine

end
section

open PySem PySem.W PyProof.Rows PySem.Calls
namespace Mine

/-- the kinds of a frame's names are its scope's -/
structure Kinds (scope : Scope) (env : Env) : Prop where
  kd : ∀ {z : Str} {k : NameKind}, scope.names.lookup z = some k → k ≠ .free → env.kindOf z = some k
  kf : ∀ {z : Str}, scope.names.lookup z = some .free → env.kindOf z = some .cell ∨ env.kindOf z = some .free

theorem kinds_of {scope : Scope} {env : Env} (h : env.scope = scope) : Kinds scope env := by
  subst h
  exact ⟨fun e _ => e, fun e => .inr e⟩
theorem kinds_comp {scope : Scope} {env : Env} {cl : List (Str × Addr)} {C : Addr} : Kinds scope (compEnvC scope cl C env) := by
  refine ⟨fun {z k} h hk => ?_, fun {z} h => lookup_relabel_free (env := env) h⟩
  show (scope.names.map fun (n, k) => if (k == NameKind.free && env.scope.kind == .function && env.kindOf n == some .cell) then (n, NameKind.cell) else (n, k)).lookup z = some k
  generalize scope.names = names at h
  induction names with
  | nil => simp at h
  | cons y r ih =>
    obtain ⟨n, k'⟩ := y
    rw [List.lookup_cons] at h
    rw [List.map_cons]
    cases hx : z == n with
    | true =>
      rw [hx] at h
      cases h
      have : (k == NameKind.free) = false := by simpa using hk
      simp only [this, Bool.false_and]
      rw [if_neg (by decide), List.lookup_cons, hx]
    | false =>
      rw [hx] at h
      dsimp only
      split
      · rw [List.lookup_cons, hx]; exact ih h
      · rw [List.lookup_cons, hx]; exact ih h

section
variable {prog : Program} {w : World} {A : Around} {D : Addr → Prop} {s s₁ s₂ s₀ : Shared} {g : Heap} {env : Env} {ρ : Rho} {mg mb : Str → Option Value}

theorem own_local {scope : Scope} (K : Kinds scope env) {n : Str} (h : scope.names.lookup n = some .local) : Own s₀ env n := .inl (K.kd h (by decide))

def freeOf (scope : Scope) : List Str := (scope.names.filter fun x => x.2 == .free).map (·.1)

theorem compScope_mk {scope sc : Scope} (K : Kinds sc env) (hfree : ∀ x ∈ freeOf scope, sc.names.lookup x = some .cell ∨ sc.names.lookup x = some .free) (hk : scope.kind = .function := by rfl)
    (hn : ∀ x ∈ scope.names, x.2 = .local → scope.names.lookup x.1 = some .local := by decide)
    (hp : ∀ z ∈ freeOf scope, scope.names.lookup z = some .free ∧ (z, NameKind.cell) ∉ scope.names ∧ (z == ("__classdict__" : Str)) = false := by decide) : CompScope scope env (freeOf scope) := by
  refine ⟨hk, hn, fun x m e => ?_, hp⟩
  have : x.1 ∈ freeOf scope := List.mem_map.mpr ⟨x, List.mem_filter.mpr ⟨m, by rw [e]; rfl⟩, rfl⟩
  rcases hfree x.1 this with h | h
  · exact .inl (K.kd h (by decide))
  · exact K.kf h

theorem upd_keep {fl : List Str} {n : Str} {e' : Ent} (h : fl.contains n = false) : ∀ z e, pick fl ρ z = some e → upd (pick fl ρ) n e' z = some e := fun z e q => by
  unfold upd
  split
  · rename_i hz
    subst hz
    unfold pick at q
    rw [h] at q
    cases q
  · exact q
theorem upd2_keep {fl : List Str} {n m : Str} {e' e'' : Ent} (h : fl.contains n = false) (h' : fl.contains m = false) : ∀ z e, pick fl ρ z = some e → upd (upd (pick fl ρ) n e') m e'' z = some e := fun z e q => by
  unfold upd
  split
  · rename_i hz
    subst hz
    unfold pick at q
    rw [h'] at q
    cases q
  · exact upd_keep h z e q

theorem own_comp {scope : Scope} {cl : List (Str × Addr)} {C X' : Addr} {D' : Addr → Prop} (ci : CompIn s scope cl C X' D') {n : Str} (h : scope.names.lookup n = some .local ∨ scope.names.lookup n = some .cell) : Own s (compEnvC scope cl C env) n := by
  rcases h with h | h
  · exact .inl (kinds_comp.kd h (by decide))
  · obtain ⟨c, hc, hf⟩ := ci.cells n (mem_of_lookup h)
    exact .inr ⟨kinds_comp.kd h (by decide), c, hc, hf⟩

/-- a clause with a plain name -/
theorem has_compNT {elt iter : Expr} {n : Str} {pn : Pos} {ifs : List Expr} {scope : Scope} {pos : Pos} {α β : Type} {T : Ty α} {U : Ty β} {p : α → Bool} {f : α → β} {xs : List α} {fl : List Str}
    (X : Ex g s₀ D env s ρ) (hi : Iters prog w A D s iter env T (.Name n pn) xs) (cs : CompScope scope env fl) (hsz : xs.length ≤ 9000)
    (hn : scope.names.lookup n = some .local ∨ scope.names.lookup n = some .cell) (hfl : fl.contains n = false)
    (ht : ∀ x ∈ xs, ∀ env' s' D' s₁, Keeps s s' → Kinds scope env' → Ex g s' D' env' s₁ (upd (pick fl ρ) n ⟨T, x⟩) → Tests prog w A D' s₁ ifs env' (p x))
    (he : ∀ x ∈ xs, p x = true → ∀ env' s' D' s₁, Keeps s s' → Kinds scope env' → Ex g s' D' env' s₁ (upd (pick fl ρ) n ⟨T, x⟩) → Has prog w A D' s₁ (eval elt env') U (f x))
    (hs : ∀ x, foldedSetIterable iter env x = pure x := by intro _; rfl) :
    Has prog w A D s (eval (.ListComp elt [⟨.Name n pn, iter, ifs, 0⟩] scope pos) env) (tNew s U) ((xs.filter p).map f) := by
  rw [← flatMap_filter]
  exact has_comp1T X hi cs (fun x => upd_keep hfl) hsz (fun s' cl C X' D' k ci => asg_name (own_comp ci hn)) (fun x hx s' cl C X' D' s₁ k ci E => ht x hx _ s' D' s₁ k kinds_comp E) (fun x hx hp s' cl C X' D' s₁ k ci E => he x hx hp _ s' D' s₁ k kinds_comp E) hs

/-- a clause with a plain name -/
theorem has_compN {elt iter : Expr} {n : Str} {pn : Pos} {ifs : List Expr} {scope : Scope} {pos : Pos} {α β : Type} {T : Ty α} {U : Ty β} {p : α → Bool} {f : α → β} {xs : List α} {fl : List Str}
    (X : Ex g s₀ D env s ρ) (hi : Iters prog w A D s iter env T (.Name n pn) xs) (cs : CompScope scope env fl) (hsz : xs.length ≤ 9000)
    (hn : scope.names.lookup n = some .local ∨ scope.names.lookup n = some .cell) (hfl : fl.contains n = false)
    (ht : ∀ x ∈ xs, ∀ env' s' D' s₁, Keeps s s' → Kinds scope env' → Ex g s' D' env' s₁ (upd (pick fl ρ) n ⟨T, x⟩) → Tests prog w A D' s₁ ifs env' (p x))
    (he : ∀ x ∈ xs, p x = true → ∀ env' s' D' s₁, Keeps s s' → Kinds scope env' → Ex g s' D' env' s₁ (upd (pick fl ρ) n ⟨T, x⟩) → Has prog w A D' s₁ (eval elt env') U (f x))
    (hs : ∀ x, foldedSetIterable iter env x = pure x := by intro _; rfl) :
    Has prog w A D s (eval (.ListComp elt [⟨.Name n pn, iter, ifs, 0⟩] scope pos) env) (tList U) ((xs.filter p).map f) := by
  rw [← flatMap_filter]
  exact has_comp1 X hi cs (fun x => upd_keep hfl) hsz (fun s' cl C X' D' k ci => asg_name (own_comp ci hn)) (fun x hx s' cl C X' D' s₁ k ci E => ht x hx _ s' D' s₁ k kinds_comp E) (fun x hx hp s' cl C X' D' s₁ k ci E => he x hx hp _ s' D' s₁ k kinds_comp E) hs

/-- a clause that unpacks a pair -/
theorem has_compPT {elt iter : Expr} {n m : Str} {pn pm pt : Pos} {kt : Nat} {ifs : List Expr} {scope : Scope} {pos : Pos} {α α' β : Type} {T : Ty α} {T' : Ty α'} {U : Ty β} {p : α × α' → Bool} {f : α × α' → β} {xs : List (α × α')} {fl : List Str}
    (hh : A.handled = none) (X : Ex g s₀ D env s ρ) (hi : Iters prog w A D s iter env (tPair T T') (.Tuple [.Name n pn, .Name m pm] kt pt) xs) (cs : CompScope scope env fl) (hsz : xs.length ≤ 9000)
    (hn : scope.names.lookup n = some .local ∨ scope.names.lookup n = some .cell) (hfl : fl.contains n = false) (hm : scope.names.lookup m = some .local ∨ scope.names.lookup m = some .cell) (hfm : fl.contains m = false)
    (ht : ∀ x ∈ xs, ∀ env' s' D' s₁, Keeps s s' → Kinds scope env' → Ex g s' D' env' s₁ (upd (upd (pick fl ρ) n ⟨T, x.1⟩) m ⟨T', x.2⟩) → Tests prog w A D' s₁ ifs env' (p x))
    (he : ∀ x ∈ xs, p x = true → ∀ env' s' D' s₁, Keeps s s' → Kinds scope env' → Ex g s' D' env' s₁ (upd (upd (pick fl ρ) n ⟨T, x.1⟩) m ⟨T', x.2⟩) → Has prog w A D' s₁ (eval elt env') U (f x))
    (hs : ∀ x, foldedSetIterable iter env x = pure x := by intro _; rfl) :
    Has prog w A D s (eval (.ListComp elt [⟨.Tuple [.Name n pn, .Name m pm] kt pt, iter, ifs, 0⟩] scope pos) env) (tNew s U) ((xs.filter p).map f) := by
  rw [← flatMap_filter]
  exact has_comp1T X hi cs (fun x => upd2_keep hfl hfm) hsz (fun s' cl C X' D' k ci => asg_pair hh (own_comp ci hn) (own_comp ci hm)) (fun x hx s' cl C X' D' s₁ k ci E => ht x hx _ s' D' s₁ k kinds_comp E) (fun x hx hp s' cl C X' D' s₁ k ci E => he x hx hp _ s' D' s₁ k kinds_comp E) hs

/-- a clause that unpacks a pair -/
theorem has_compP {elt iter : Expr} {n m : Str} {pn pm pt : Pos} {kt : Nat} {ifs : List Expr} {scope : Scope} {pos : Pos} {α α' β : Type} {T : Ty α} {T' : Ty α'} {U : Ty β} {p : α × α' → Bool} {f : α × α' → β} {xs : List (α × α')} {fl : List Str}
    (hh : A.handled = none) (X : Ex g s₀ D env s ρ) (hi : Iters prog w A D s iter env (tPair T T') (.Tuple [.Name n pn, .Name m pm] kt pt) xs) (cs : CompScope scope env fl) (hsz : xs.length ≤ 9000)
    (hn : scope.names.lookup n = some .local ∨ scope.names.lookup n = some .cell) (hfl : fl.contains n = false) (hm : scope.names.lookup m = some .local ∨ scope.names.lookup m = some .cell) (hfm : fl.contains m = false)
    (ht : ∀ x ∈ xs, ∀ env' s' D' s₁, Keeps s s' → Kinds scope env' → Ex g s' D' env' s₁ (upd (upd (pick fl ρ) n ⟨T, x.1⟩) m ⟨T', x.2⟩) → Tests prog w A D' s₁ ifs env' (p x))
    (he : ∀ x ∈ xs, p x = true → ∀ env' s' D' s₁, Keeps s s' → Kinds scope env' → Ex g s' D' env' s₁ (upd (upd (pick fl ρ) n ⟨T, x.1⟩) m ⟨T', x.2⟩) → Has prog w A D' s₁ (eval elt env') U (f x))
    (hs : ∀ x, foldedSetIterable iter env x = pure x := by intro _; rfl) :
    Has prog w A D s (eval (.ListComp elt [⟨.Tuple [.Name n pn, .Name m pm] kt pt, iter, ifs, 0⟩] scope pos) env) (tList U) ((xs.filter p).map f) := by
  rw [← flatMap_filter]
  exact has_comp1 X hi cs (fun x => upd2_keep hfl hfm) hsz (fun s' cl C X' D' k ci => asg_pair hh (own_comp ci hn) (own_comp ci hm)) (fun x hx s' cl C X' D' s₁ k ci E => ht x hx _ s' D' s₁ k kinds_comp E) (fun x hx hp s' cl C X' D' s₁ k ci E => he x hx hp _ s' D' s₁ k kinds_comp E) hs

theorem ex_assign_compNM {y : Str} {py spos : Pos} {elt iter : Expr} {n : Str} {pn : Pos} {ifs : List Expr} {scope : Scope} {pos : Pos} {α β : Type} {T : Ty α} {U : Ty β} {p : α → Bool} {f : α → β} {xs : List α} {fl : List Str}
    {Q : Flow → Shared → Prop} {E : Value → Shared → Prop} (X : Ex g s₀ D env s ρ) (o : Own s₀ env y) (hi : Iters prog w A D s iter env T (.Name n pn) xs) (cs : CompScope scope env fl) (hsz : xs.length ≤ 9000)
    (hn : scope.names.lookup n = some .local ∨ scope.names.lookup n = some .cell) (hfl : fl.contains n = false)
    (ht : ∀ x ∈ xs, ∀ env' s' D' s₁, Keeps s s' → Kinds scope env' → Ex g s' D' env' s₁ (upd (pick fl ρ) n ⟨T, x⟩) → Tests prog w A D' s₁ ifs env' (p x))
    (he : ∀ x ∈ xs, p x = true → ∀ env' s' D' s₁, Keeps s s' → Kinds scope env' → Ex g s' D' env' s₁ (upd (pick fl ρ) n ⟨T, x⟩) → Has prog w A D' s₁ (eval elt env') U (f x))
    (h : ∀ s' q, s.heap.get? q = none → Ex g s₀ (Plus D q) env s' (upd ρ y ⟨tVal, .ref q⟩) → Acc U (Plus D q) q s'.heap ((xs.filter p).map f) → q ≠ env.locals → Others D env s s' → Q .next s')
    (hsw : swapsWith (.ListComp elt [⟨.Name n pn, iter, ifs, 0⟩] scope pos) (some (.Name y py)) spos.line env = pure true)
    (hs : ∀ x, foldedSetIterable iter env x = pure x := by intro _; rfl) :
    wpAny (model prog w) A (exec (.Assign [.Name y py] (.ListComp elt [⟨.Name n pn, iter, ifs, 0⟩] scope pos) spos) env) Q E s :=
  ex_assign_comp1M X o hi cs (fun x => upd_keep hfl) hsz (fun s' cl C X' D' k ci => asg_name (own_comp ci hn)) (fun x hx s' cl C X' D' s₁ k ci E => ht x hx _ s' D' s₁ k kinds_comp E) (fun x hx hp s' cl C X' D' s₁ k ci E => he x hx hp _ s' D' s₁ k kinds_comp E) h hsw hs

theorem ex_assign_compNT {y : Str} {py spos : Pos} {elt iter : Expr} {n : Str} {pn : Pos} {ifs : List Expr} {scope : Scope} {pos : Pos} {α β : Type} {T : Ty α} {U : Ty β} {p : α → Bool} {f : α → β} {xs : List α} {fl : List Str}
    {Q : Flow → Shared → Prop} {E : Value → Shared → Prop} (X : Ex g s₀ D env s ρ) (o : Own s₀ env y) (hi : Iters prog w A D s iter env T (.Name n pn) xs) (cs : CompScope scope env fl) (hsz : xs.length ≤ 9000)
    (hn : scope.names.lookup n = some .local ∨ scope.names.lookup n = some .cell) (hfl : fl.contains n = false)
    (ht : ∀ x ∈ xs, ∀ env' s' D' s₁, Keeps s s' → Kinds scope env' → Ex g s' D' env' s₁ (upd (pick fl ρ) n ⟨T, x⟩) → Tests prog w A D' s₁ ifs env' (p x))
    (he : ∀ x ∈ xs, p x = true → ∀ env' s' D' s₁, Keeps s s' → Kinds scope env' → Ex g s' D' env' s₁ (upd (pick fl ρ) n ⟨T, x⟩) → Has prog w A D' s₁ (eval elt env') U (f x))
    (h : ∀ s', Ex g s₀ D env s' (upd ρ y ⟨tNew s U, (xs.filter p).map f⟩) → Others D env s s' → Q .next s')
    (hsw : swapsWith (.ListComp elt [⟨.Name n pn, iter, ifs, 0⟩] scope pos) (some (.Name y py)) spos.line env = pure true)
    (hs : ∀ x, foldedSetIterable iter env x = pure x := by intro _; rfl) :
    wpAny (model prog w) A (exec (.Assign [.Name y py] (.ListComp elt [⟨.Name n pn, iter, ifs, 0⟩] scope pos) spos) env) Q E s :=
  ex_assign_comp1T X o hi cs (fun x => upd_keep hfl) hsz (fun s' cl C X' D' k ci => asg_name (own_comp ci hn)) (fun x hx s' cl C X' D' s₁ k ci E => ht x hx _ s' D' s₁ k kinds_comp E) (fun x hx hp s' cl C X' D' s₁ k ci E => he x hx hp _ s' D' s₁ k kinds_comp E) h hsw hs

theorem ex_assign_compN {y : Str} {py spos : Pos} {elt iter : Expr} {n : Str} {pn : Pos} {ifs : List Expr} {scope : Scope} {pos : Pos} {α β : Type} {T : Ty α} {U : Ty β} {p : α → Bool} {f : α → β} {xs : List α} {fl : List Str}
    {Q : Flow → Shared → Prop} {E : Value → Shared → Prop} (X : Ex g s₀ D env s ρ) (o : Own s₀ env y) (hi : Iters prog w A D s iter env T (.Name n pn) xs) (cs : CompScope scope env fl) (hsz : xs.length ≤ 9000)
    (hn : scope.names.lookup n = some .local ∨ scope.names.lookup n = some .cell) (hfl : fl.contains n = false)
    (ht : ∀ x ∈ xs, ∀ env' s' D' s₁, Keeps s s' → Kinds scope env' → Ex g s' D' env' s₁ (upd (pick fl ρ) n ⟨T, x⟩) → Tests prog w A D' s₁ ifs env' (p x))
    (he : ∀ x ∈ xs, p x = true → ∀ env' s' D' s₁, Keeps s s' → Kinds scope env' → Ex g s' D' env' s₁ (upd (pick fl ρ) n ⟨T, x⟩) → Has prog w A D' s₁ (eval elt env') U (f x))
    (h : ∀ s', Ex g s₀ D env s' (upd ρ y ⟨tList U, (xs.filter p).map f⟩) → Others D env s s' → Q .next s')
    (hsw : swapsWith (.ListComp elt [⟨.Name n pn, iter, ifs, 0⟩] scope pos) (some (.Name y py)) spos.line env = pure true)
    (hs : ∀ x, foldedSetIterable iter env x = pure x := by intro _; rfl) :
    wpAny (model prog w) A (exec (.Assign [.Name y py] (.ListComp elt [⟨.Name n pn, iter, ifs, 0⟩] scope pos) spos) env) Q E s :=
  ex_assign_comp1 X o hi cs (fun x => upd_keep hfl) hsz (fun s' cl C X' D' k ci => asg_name (own_comp ci hn)) (fun x hx s' cl C X' D' s₁ k ci E => ht x hx _ s' D' s₁ k kinds_comp E) (fun x hx hp s' cl C X' D' s₁ k ci E => he x hx hp _ s' D' s₁ k kinds_comp E) h hsw hs

/-- two clauses with plain names, the first without a test -/
theorem has_comp2 {elt it0 it1 : Expr} {n m : Str} {pn pm : Pos} {ifs : List Expr} {scope : Scope} {pos : Pos} {α α' β : Type} {T : Ty α} {T' : Ty α'} {U : Ty β} {xs : List α} {ys : α → List α'} {p : α → α' → Bool} {f : α → α' → β} {fl : List Str}
    (X : Ex g s₀ D env s ρ) (hi : Iters prog w A D s it0 env T (.Name n pn) xs) (cs : CompScope scope env fl)
    (hsz : (xs.flatMap fun x => ((ys x).filter (p x)).map (f x)).length ≤ 9000) (hsz' : ∀ x ∈ xs, (ys x).length ≤ 1000)
    (hn : scope.names.lookup n = some .local ∨ scope.names.lookup n = some .cell) (hfl : fl.contains n = false) (hm : scope.names.lookup m = some .local ∨ scope.names.lookup m = some .cell) (hfm : fl.contains m = false) (hnm : n ≠ m)
    (hi1 : ∀ x ∈ xs, ∀ env' s' D' s₁, Keeps s s' → Kinds scope env' → Ex g s' D' env' s₁ (upd (pick fl ρ) n ⟨T, x⟩) → Iters prog w A D' s₁ it1 env' T' (.Name m pm) (ys x))
    (ht : ∀ x ∈ xs, ∀ y ∈ ys x, ∀ env' s' D' s₁, Keeps s s' → Kinds scope env' → Ex g s' D' env' s₁ (upd (upd (pick fl ρ) n ⟨T, x⟩) m ⟨T', y⟩) → Tests prog w A D' s₁ ifs env' (p x y))
    (he : ∀ x ∈ xs, ∀ y ∈ ys x, p x y = true → ∀ env' s' D' s₁, Keeps s s' → Kinds scope env' → Ex g s' D' env' s₁ (upd (upd (pick fl ρ) n ⟨T, x⟩) m ⟨T', y⟩) → Has prog w A D' s₁ (eval elt env') U (f x y))
    (hs : ∀ x, foldedSetIterable it0 env x = pure x := by intro _; rfl) (hs1 : ∀ env' x, foldedSetIterable it1 env' x = pure x := by intro _ _; rfl) :
    Has prog w A D s (eval (.ListComp elt [⟨.Name n pn, it0, [], 0⟩, ⟨.Name m pm, it1, ifs, 0⟩] scope pos) env) (tList U) (xs.flatMap fun x => ((ys x).filter (p x)).map (f x)) :=
  has_comp X hi cs (fun x => upd_keep hfl) hsz (fun s' cl C X' D' k ci => ⟨inner _ it1 (.ref X') (compEnvC scope cl C env), fun it => turns_outer, asg_name (own_comp ci hn), fun x hx s₁ acc hE ac hl => by
    have key : ∀ l : List α', (l.flatMap fun y => if p x y then [f x y] else []) = (l.filter (p x)).map (f x) := flatMap_filter (p x) (f x)
    rw [← key]
    refine inner_ok hE ac ci.ne ci.dX ci.nX (hi1 x hx _ s' D' s₁ k kinds_comp hE) (asg_name (own_comp ci hm)) (fun y z e q => ?_) (by have := hsz' x hx; omega) (fun y hy s₂ E => ht x hx y hy _ s' D' s₂ k kinds_comp E) (fun y hy hp s₂ E => he x hx y hy hp _ s' D' s₂ k kinds_comp E) (hs1 _)
    show (if z = m then _ else upd (pick fl ρ) n ⟨T, x⟩ z) = some e
    split
    · rename_i hz
      subst hz
      unfold upd at q
      rw [if_neg (Ne.symm hnm)] at q
      unfold pick at q
      rw [hfm] at q
      cases q
    · exact q⟩) hs

-- calls of a module's functions with one, two arguments
theorem hs_fn1 {name : Str} {params : Arguments} {body : List Stmt} {scope : Scope} {f : Value} {k : Nat} {P : Heap → Value → Prop} {x : Str} {v : Value} {α : Type} {T : Ty α} {y : α} (W : Wd g mg mb) (hg : Sub g s.heap) (F : FnAt g mg name params body scope f) (R : Rm A (k + 1))
    (hv : T.is D s.heap v y) (hx : scope.names.lookup x = some .local ∨ scope.names.lookup x = some .cell) (hfr : ∀ y ∈ scope.names, y.2 ≠ .free)
    (hbind : ∀ pm cd doc, bindArgs (docDef name params body scope pm cd doc) ⟨[v], []⟩ = pure [(x, v)])
    (h : ∀ s₁ env, Keeps s s₁ → Kinds scope env → (env.scope = scope) → Rm (A.deeper env) k → ∀ s₂ D', (∀ b, D b → D' b) → Ex g s₁ D' env s₂ (upd (fun _ => none) x ⟨T, y⟩) → (∀ n, scope.names.lookup n = some .local ∨ scope.names.lookup n = some .cell → Own s₁ env n) →
      wpAny (model prog w) (A.deeper env) (execs body env) (fun fl s' => Keeps s₁ s' ∧ P s'.heap (match fl with | .ret v => v | _ => .none)) NE s₂)
    (hco : scope.isCoroutine = false := by rfl) (hgen : scope.isGenerator = false := by rfl) (hk : scope.kind = .function := by rfl) : Hs prog w A D s (call f [v]) P := by
  refine hs_fn W hg F R [(x, v, ⟨T, y⟩)] hbind (fun t m => ?_) (fun s₁ env a cd ks he R' s₂ X => ?_) (by simp) (fun n t m => ?_) hfr hco hgen hk
  · cases m with
    | head => exact hv
    | tail _ m => cases m
  · have hsc : env.scope = scope := by rw [he]; rfl
    refine h s₁ env ks (kinds_of hsc) hsc R' s₂ _ (fun b d => .inl d) X fun n hn => ?_
    rcases hn with hn | hn
    · exact .inl ((kinds_of hsc).kd hn (by decide))
    · obtain ⟨c, hc, hge⟩ := cellsFrom_new scope.names (s₁.heap.objs.size + 1) [] (mem_of_lookup hn)
      exact .inr ⟨(kinds_of hsc).kd hn (by decide), c, by rw [he]; exact hc, none_above (keeps_refl s₁) (by omega)⟩
  · cases m with
    | head => exact hx.imp id fun e => ⟨e, cellsFrom_some _ _ _ (.inl e)⟩
    | tail _ m => cases m
theorem hs_fn2 {name : Str} {params : Arguments} {body : List Stmt} {scope : Scope} {f : Value} {k : Nat} {P : Heap → Value → Prop} {x x' : Str} {v v' : Value} {α α' : Type} {T : Ty α} {y : α} {T' : Ty α'} {y' : α'} (W : Wd g mg mb) (hg : Sub g s.heap) (F : FnAt g mg name params body scope f) (R : Rm A (k + 1))
    (hv : T.is D s.heap v y) (hv' : T'.is D s.heap v' y') (hx : scope.names.lookup x = some .local ∨ scope.names.lookup x = some .cell) (hx' : scope.names.lookup x' = some .local ∨ scope.names.lookup x' = some .cell) (hne : x ≠ x') (hfr : ∀ y ∈ scope.names, y.2 ≠ .free)
    (hbind : ∀ pm cd doc, bindArgs (docDef name params body scope pm cd doc) ⟨[v, v'], []⟩ = pure [(x, v), (x', v')])
    (h : ∀ s₁ env, Keeps s s₁ → Kinds scope env → (env.scope = scope) → Rm (A.deeper env) k → ∀ s₂ D', (∀ b, D b → D' b) → Ex g s₁ D' env s₂ (upd (upd (fun _ => none) x' ⟨T', y'⟩) x ⟨T, y⟩) → (∀ n, scope.names.lookup n = some .local ∨ scope.names.lookup n = some .cell → Own s₁ env n) →
      wpAny (model prog w) (A.deeper env) (execs body env) (fun fl s' => Keeps s₁ s' ∧ P s'.heap (match fl with | .ret v => v | _ => .none)) NE s₂)
    (hco : scope.isCoroutine = false := by rfl) (hgen : scope.isGenerator = false := by rfl) (hk : scope.kind = .function := by rfl) : Hs prog w A D s (call f [v, v']) P := by
  refine hs_fn W hg F R [(x, v, ⟨T, y⟩), (x', v', ⟨T', y'⟩)] hbind (fun t m => ?_) (fun s₁ env a cd ks he R' s₂ X => ?_) (by simpa using hne) (fun n t m => ?_) hfr hco hgen hk
  · cases m with
    | head => exact hv
    | tail _ m => cases m with
      | head => exact hv'
      | tail _ m => cases m
  · have hsc : env.scope = scope := by rw [he]; rfl
    refine h s₁ env ks (kinds_of hsc) hsc R' s₂ _ (fun b d => .inl d) X fun n hn => ?_
    rcases hn with hn | hn
    · exact .inl ((kinds_of hsc).kd hn (by decide))
    · obtain ⟨c, hc, hge⟩ := cellsFrom_new scope.names (s₁.heap.objs.size + 1) [] (mem_of_lookup hn)
      exact .inr ⟨(kinds_of hsc).kd hn (by decide), c, by rw [he]; exact hc, none_above (keeps_refl s₁) (by omega)⟩
  · cases m with
    | head => exact hx.imp id fun e => ⟨e, cellsFrom_some _ _ _ (.inl e)⟩
    | tail _ m => cases m with
      | head => exact hx'.imp id fun e => ⟨e, cellsFrom_some _ _ _ (.inl e)⟩
      | tail _ m => cases m

/-- the end of a body: a returned value, typed for the caller -/
theorem ret_ok {e : Expr} {pos : Pos} {D' : Addr → Prop} {α : Type} {T : Ty α} {y : α} {E : Value → Shared → Prop} (X : Ex g s₁ D' env s ρ) (sub : ∀ b, D b → D' b) (he : Has prog w A D' s (eval e env) T y) :
    wpAny (model prog w) A (exec (.Return (some e) pos) env) (fun fl s' => match fl with | .next => True | fl => Keeps s₁ s' ∧ T.is D s'.heap (match fl with | .ret v => v | _ => .none) y) E s :=
  ex_return X he fun v s' k hv => ⟨keeps_trans X.kp k, T.wide (fun a _ _ d => sub a d) hv⟩
end
end Mine

end
section

open PySem PySem.W PyProof.Rows PySem.Calls
namespace Mine

theorem intsAre_of {D : Addr → Prop} {h : Heap} {vs : List Value} {ns : List Int} (p : Paired (tInt.is D h) vs ns) : IntsAre vs ns := by
  induction p with
  | nil => exact .nil
  | cons q _ ih => obtain ⟨t, rfl⟩ := q; exact .cons _ _ ih
theorem intsAre_to {D : Addr → Prop} {h : Heap} {vs : List Value} {ns : List Int} (p : IntsAre vs ns) : Paired (tInt.is D h) vs ns := by
  induction p with
  | nil => exact .nil
  | cons n t _ ih => exact .cons ⟨t, rfl⟩ ih

/-- the least of a list that is not empty -/
def leastL : List Int → Int
  | [] => 0
  | x :: xs => xs.foldl (fun a b => if b < a then b else a) x
theorem foldl_least : ∀ (xs : List Int) (x : Int), (xs.foldl (fun a b => if b < a then b else a) x = x ∨ xs.foldl (fun a b => if b < a then b else a) x ∈ xs) ∧ xs.foldl (fun a b => if b < a then b else a) x ≤ x ∧ ∀ y ∈ xs, xs.foldl (fun a b => if b < a then b else a) x ≤ y
  | [], x => by simp
  | y :: ys, x => by
    rw [List.foldl_cons]
    obtain ⟨h1, h2, h3⟩ := foldl_least ys (if y < x then y else x)
    generalize hm : List.foldl (fun a b => if b < a then b else a) (if y < x then y else x) ys = m at *
    refine ⟨?_, ?_, ?_⟩
    · rcases h1 with h1 | h1
      · split at h1
        · right; rw [h1]; exact .head _
        · left; exact h1
      · right; exact .tail _ h1
    · split at h2 <;> omega
    · intro z hz
      cases hz with
      | head => split at h2 <;> omega
      | tail _ hz => exact h3 z hz
theorem least_unique {ns : List Int} {m : Int} (hm : m ∈ ns) (hl : ∀ a ∈ ns, m ≤ a) : m = leastL ns := by
  cases ns with
  | nil => cases hm
  | cons x xs =>
    obtain ⟨h1, h2, h3⟩ := foldl_least xs x
    have a : leastL (x :: xs) ∈ x :: xs := by
      show List.foldl _ _ _ ∈ _
      rcases h1 with h1 | h1
      · rw [h1]; exact .head _
      · exact .tail _ h1
    have b := hl _ a
    have c : leastL (x :: xs) ≤ m := by
      show List.foldl _ _ _ ≤ _
      cases hm with
      | head => exact h2
      | tail _ hm => exact h3 m hm
    omega

section
variable {prog : Program} {w : World} {A : Around} {D : Addr → Prop} {s s₁ s₀ : Shared} {g : Heap} {env : Env} {ρ : Rho} {mg mb : Str → Option Value} {x : Str} {px pos : Pos}

theorem has_sum {e : Expr} {xs : List Int} (hh : A.handled = none) (hf : Has prog w A D s (eval (.Name x px) env) tVal (.builtin "sum")) (he : Has prog w A D s (eval e env) (tList tInt) xs)
    (hp : starEach [e] env = (false, eval e env) :: starEach [] env := by rfl) (hst : ∀ e' ∈ [e], isStarred e' = false := by simp [isStarred]) : Has prog w A D s (eval (.Call (.Name x px) [e] [] pos) env) tInt xs.sum :=
  hs_call hf (.inl fun _ h => nomatch h) (hsl_cons he hsl_nil hp) (fun s₁ vs k a => by
    obtain ⟨v, rfl, p, n, us, rfl, hd, hg, hq⟩ := a.one
    refine Hs.of fun s₂ Q k₂ l₂ h => ?_
    have hi := intsAre_of hq
    obtain ⟨ys, e⟩ := AllInts.items hi.allInts
    refine sum_intListG hh (e ▸ isList_of (keeps_get k₂ hg)) fun h' tk t' hk => ?_
    rw [preSum_eq, List.take_of_length_le (by simp), ← nums_intItems, ← e]
    exact h _ _ (keeps_of_heap hk) ⟨t', by rw [show us.toArray.toList = us from rfl, hi.numsOf]⟩) hst

theorem has_min {e : Expr} {xs : List Int} (hh : A.handled = none) (hf : Has prog w A D s (eval (.Name x px) env) tVal (.builtin "min")) (he : Has prog w A D s (eval e env) (tList tInt) xs) (hne : 0 < xs.length)
    (hp : starEach [e] env = (false, eval e env) :: starEach [] env := by rfl) (hst : ∀ e' ∈ [e], isStarred e' = false := by simp [isStarred]) : Has prog w A D s (eval (.Call (.Name x px) [e] [] pos) env) tInt (leastL xs) :=
  hs_call hf (.inl fun _ h => nomatch h) (hsl_cons he hsl_nil hp) (fun s₁ vs k a => by
    obtain ⟨v, rfl, p, n, us, rfl, hd, hg, hq⟩ := a.one
    refine Hs.of fun s₂ Q k₂ l₂ h => ?_
    have hi := intsAre_of hq
    obtain ⟨ys, e⟩ := AllInts.items hi.allInts
    have hlen : us.length = xs.length := hq.length
    have hsz : 0 < ys.size := by
      have := congrArg Array.size e
      simp [intItems] at this
      omega
    refine min_intList hh (e ▸ isList_of (keeps_get k₂ hg)) hsz fun v h' tk hv hk => ?_
    obtain ⟨t, rfl⟩ := intItems_at hv
    obtain ⟨h1, h2⟩ := argBest_lt (numAt ys) (ys.size - 1)
    have hxs : ys.toList.map (·.1) = xs := by rw [← nums_intItems, ← e]; exact hi.numsOf
    refine h _ _ (keeps_of_heap hk) ⟨t, ?_⟩
    congr 1
    refine least_unique ?_ fun a ha => ?_
    · rw [← hxs, numAt_eq]; exact getD_mem (by rw [List.length_map, Array.length_toList]; omega)
    · rw [← hxs] at ha
      obtain ⟨j, hj, rfl⟩ := mem_getD ha
      rw [List.length_map, Array.length_toList] at hj
      rw [← numAt_eq]; exact h2 j (by omega)) hst

theorem paired_rep {α β : Type} {F : α → β → Prop} {a : List α} {b : List β} (h : Paired F a b) : ∀ n, Paired F (List.replicate n a).flatten (List.replicate n b).flatten
  | 0 => .nil
  | n + 1 => by
    rw [List.replicate_succ, List.replicate_succ, List.flatten_cons, List.flatten_cons]
    exact paired_append h (paired_rep h n)

theorem mul_list_any {l : Addr} {items : Array Value} {k : Nat} {x : Int} {u : Tok} {Q : Value → Shared → Prop} {E : Value → Shared → Prop}
    (hl : s.heap.get? l = some (lstObj items k)) (hlo : -(2 ^ 63 : Int) ≤ x) (hhi : x < 2 ^ 63) (hsz : items.size * x.toNat ≤ 2 ^ 24)
    (h : Q (.ref s.heap.objs.size) { s with heap := s.heap.push (lstObj (List.replicate x.toNat items.toList).flatten.toArray 0) }) :
    wpAny (model prog w) A (binaryOp .Mult (.ref l) (.int x u)) Q E s := by
  rw [← listMul_foldl_if] at h
  exact wpAny_binaryOp_repeat_ref (T := "list") (U := "int") (by decide) ⟨_, hl, rfl⟩ (fun s' => typeIs_int s' x u) noFill_list_mul F.fills_int_mul F.slot_int_rmul repeat_list F.slot_int_index.lookup
    (call_meets F.slot_int_rmul (typeIs_int s x u) F.entry_int_rmul (F.args_int_rmul_2 _ _) (int___rmul___int_list x u l items k)
      ⟨hl, rfl, ⟨_, hl, rfl⟩, call_meets F.slot_list_mul ⟨_, hl, rfl⟩ F.entry_list_mul (F.args_list_mul_2 _ _)
        (AutoListH.list___mul___list_int_3 l items k x u (by simp [Builtin.List.listFitsIndex]; omega) (by omega) (by simp [Builtin.List.listTooLong, sizeLine]; omega))
        ⟨hl, h⟩⟩)

/-- xs * n -/
theorem has_mullistT {l r : Expr} {α : Type} {T : Ty α} {xs : List α} {n : Int} (ha : Has prog w A D s (eval l env) (tList T) xs) (hb : Has prog w A D s (eval r env) tInt n) (h0 : 0 ≤ n) (hn : n ≤ 1000) (hx : xs.length ≤ 1000) :
    Has prog w A D s (eval (.BinOp l .Mult r pos) env) (tNew s T) (List.replicate n.toNat xs).flatten :=
  hs_binop ha hb fun s₁ u v k0 hu hv => by
    obtain ⟨p, m, vs, rfl, hd, hg, hp⟩ := hu
    obtain ⟨t, rfl⟩ := hv
    refine Hs.of fun s' Q k l h => ?_
    have ks := keeps_trans k0 k
    refine mul_list_any (keeps_get k hg) (by omega) (by omega) ?_ (h _ _ (keeps_push _ _) ⟨_, 0, _, rfl, live_fresh l, Heap.get?_push_size _ rfl, ?_, keeps_none ks (none_size _)⟩)
    · rw [List.size_toArray, hp.length]
      exact Nat.le_trans (Nat.mul_le_mul hx (show n.toNat ≤ 1000 by omega)) (by decide)
    · exact paired_rep (paired_mono (fun _ _ => T.mono (keeps_le (keeps_trans k (keeps_push s' _)) D)) hp) _

theorem has_mullist {l r : Expr} {α : Type} {T : Ty α} {xs : List α} {n : Int} (ha : Has prog w A D s (eval l env) (tList T) xs) (hb : Has prog w A D s (eval r env) tInt n) (h0 : 0 ≤ n) (hn : n ≤ 1000) (hx : xs.length ≤ 1000) :
    Has prog w A D s (eval (.BinOp l .Mult r pos) env) (tList T) (List.replicate n.toNat xs).flatten := (has_mullistT ha hb h0 hn hx).old

/-- xs[:n] -/
theorem has_upto {value e : Expr} {p : Pos} {α : Type} {T : Ty α} {xs : List α} {n : Int} (ha : Has prog w A D s (eval value env) (tList T) xs) (hb : Has prog w A D s (eval e env) tInt n) (h0 : 0 ≤ n) (hx : xs.length ≤ 1000) :
    Has prog w A D s (eval (.Subscript value (.Slice none (some e) none p) pos) env) (tList T) (xs.take n.toNat) := fun s' k L =>
  Subscript_ (wpAny_mono (ha s' k L) (fun u s₁ a => by
    refine wpAny_Slice (wpAny_evalPart_none (wpAny_evalPart_some (wpAny_mono (hb s₁ (keeps_trans k a.1) (live_keeps L a.1)) (fun v s₂ b => ?_) fun _ _ e => e)))
    refine wpAny_evalPart_none ?_
    obtain ⟨ka, q, m, vs, rfl, hd, hg, hp⟩ := a
    obtain ⟨kb, t, rfl⟩ := b
    have kk := keeps_trans kb (keeps_push s₂ { cls := .type "slice", data := .fields #[.none, .int n t, .none] })
    have hg' := keeps_get kk hg
    refine tail_any (isList_of hg').typeIs slot_list_getitem.lookup (wpAny_getItem_list_slice (isList_of hg') (Heap.IsSliceOf.new _ _ _ _) .none (.int n t) .none (by decide) ?_ (by rw [List.size_toArray, hp.length, sizeLine_eq]; omega)) rfl
    have e : slicePick vs.toArray none (some n) none = (vs.take n.toNat).toArray := by
      have := slicePick_upto' vs.toArray n.toNat
      rw [show ((n.toNat : Nat) : Int) = n by omega] at this
      simpa using this
    have k3 := keeps_trans kk (keeps_push { s₂ with heap := s₂.heap.push { cls := .type "slice", data := .fields #[.none, .int n t, .none] } } (lstObj (vs.take n.toNat).toArray 0))
    rw [e]
    exact ⟨keeps_trans ka k3, _, 0, _, rfl, live_fresh (live_keeps L (keeps_trans ka kk)), Heap.get?_push_size _ rfl, paired_mono (fun _ _ => T.mono (keeps_le k3 D)) (paired_take hp _)⟩) fun _ _ e => e)

/-- xs[i] of any expression -/
theorem has_itemE {value slice : Expr} {α : Type} {T : Ty α} {xs : List α} {i : Int} {y : α} (ha : Has prog w A D s (eval value env) (tList T) xs) (hb : Has prog w A D s (eval slice env) tInt i)
    (h0 : 0 ≤ i) (hhi : i < 2 ^ 63) (hy : xs[i.toNat]? = some y) (hs : ∀ o k t, subscripted slice false (.ref o) (.int k t) = operate [.ref o, .int k t] (getItem (.ref o) (.int k t)) := by intro _ _ _; with_unfolding_all rfl) :
    Has prog w A D s (eval (.Subscript value slice pos) env) T y :=
  hs_sub ha hb fun s₁ u v k hu hv => by
    obtain ⟨p, m, vs, rfl, hd, hg, hp⟩ := hu
    obtain ⟨t, rfl⟩ := hv
    obtain ⟨x, hx, hx'⟩ := paired_get hp _ _ hy
    exact Hs.of fun s' Q k' l q => tail_any (isList_of (keeps_get k' hg)).typeIs slot_list_getitem.lookup (wpAny_getItem_list (isList_of (keeps_get k' hg)) h0 hhi (by simpa using hx) (q _ _ (keeps_refl _) (T.mono (keeps_le k' D) hx'))) (hs _ _ _)
theorem has_fstE {value slice : Expr} {α β : Type} {T : Ty α} {U : Ty β} {p : α × β} (ha : Has prog w A D s (eval value env) (tPair T U) p) (hb : Has prog w A D s (eval slice env) tInt 0)
    (hs : ∀ o k t, subscripted slice false (.ref o) (.int k t) = operate [.ref o, .int k t] (getItem (.ref o) (.int k t)) := by intro _ _ _; with_unfolding_all rfl) :
    Has prog w A D s (eval (.Subscript value slice pos) env) T p.1 :=
  hs_sub ha hb fun s₁ u v k hu hv => by
    obtain ⟨q, m, a, b, rfl, hd, hg, hx, hy⟩ := hu
    obtain ⟨t, rfl⟩ := hv
    refine Hs.of fun s' Q k' l r => ?_
    have ht : IsTup s'.heap q #[a, b] := ⟨_, keeps_get k' hg, rfl, m, rfl⟩
    exact tail_any (T := "tuple") ⟨_, keeps_get k' hg, rfl⟩ slot_tuple_getitem.lookup (PyProof.Rows.getItem_tuple (j := 0) ht (by decide) (by decide) (by show seqIndex? 0 2 = some 0; decide) rfl (r _ _ (keeps_refl _) (T.mono (keeps_le k' D) hx))) (hs _ _ _)
end
end Mine

end
section

open PySem PySem.W PyProof.Rows PySem.Calls
namespace Mine
def stOf (p : Program) (i : Nat) : Stmt := p.main.body.getD i (.Pass ⟨0, 0, 0, 0⟩)
def bodyOf : Stmt → List Stmt
  | .FunctionDef _ _ b .. => b
  | _ => []
def paramsOf : Stmt → Arguments
  | .FunctionDef _ a .. => a
  | _ => ⟨[], [], none, [], [], none, []⟩
def scopeOf : Stmt → Scope
  | .FunctionDef _ _ _ _ _ _ sc .. => sc
  | _ => { kind := .module, names := [], isGenerator := false, isCoroutine := false }
def nameOf : Stmt → Str
  | .FunctionDef n .. => n
  | _ => ""
/-- the i-th definition of p stands in g, as f -/
abbrev DefAt (p : Program) (g : Heap) (mg : Str → Option Value) (i : Nat) (f : Value) : Prop := FnAt g mg (nameOf (stOf p i)) (paramsOf (stOf p i)) (bodyOf (stOf p i)) (scopeOf (stOf p i)) f
end Mine

end
section

open PySem PySem.W PyProof.Rows PySem.Calls
namespace Mine

/-- the builtins that the text leans on -/
structure Bt (mg mb : Str → Option Value) : Prop where
  range : gl mg mb "range" = some (.type "range")
  enumerate : gl mg mb "enumerate" = some (.type "enumerate")
  len : gl mg mb "len" = some (.builtin "len")
  sum : gl mg mb "sum" = some (.builtin "sum")
  min : gl mg mb "min" = some (.builtin "min")
  max : gl mg mb "max" = some (.builtin "max")
  abs : gl mg mb "abs" = some (.builtin "abs")
  int : gl mg mb "int" = some (.type "int")
  list : gl mg mb "list" = some (.type "list")
  dict : gl mg mb "dict" = some (.type "dict")
  sorted : gl mg mb "sorted" = some (.builtin "sorted")

structure Cx (g : Heap) (mg mb : Str → Option Value) : Prop where
  W : Wd g mg mb
  B : Bt mg mb

theorem upd_here {ρ : Rho} {x : Str} {e : Ent} : upd ρ x e x = some e := if_pos rfl
theorem upd_there {ρ : Rho} {x z : Str} {e e' : Ent} (h : ρ z = some e) (n : (z == x) = false) : upd ρ x e' z = some e := by
  unfold upd
  rw [if_neg (by simpa using n)]; exact h
theorem pick_in {ρ : Rho} {fl : List Str} {z : Str} {e : Ent} (h : ρ z = some e) (n : fl.contains z = true) : pick fl ρ z = some e := by
  unfold pick
  rw [if_pos n]; exact h
theorem filter_tt {α : Type} : ∀ l : List α, (l.filter fun _ => true) = l
  | [] => rfl
  | x :: xs => by rw [List.filter_cons, if_pos rfl, filter_tt xs]

section
variable {prog : Program} {w : World} {A : Around} {D : Addr → Prop} {s s₁ s₀ : Shared} {g : Heap} {env : Env} {ρ : Rho} {mg mb : Str → Option Value} {sc : Scope}

theorem ex_cons {st : Stmt} {rest l : List Stmt} {Q : Flow → Shared → Prop} {E : Value → Shared → Prop} (h : wpAny (model prog w) A (exec st env) (fun f s' => match f with | .next => wpAny (model prog w) A (execs rest env) Q E s' | f => Q f s') E s) (e : l = st :: rest := by rfl) :
    wpAny (model prog w) A (execs l env) Q E s := by
  subst e
  refine wpAny_execs_cons (wpAny_mono h (fun f s' q => ?_) fun _ _ e => e)
  cases f <;> exact q
theorem ex_nil {Q : Flow → Shared → Prop} {E : Value → Shared → Prop} {l : List Stmt} (h : Q .next s) (e : l = [] := by rfl) : wpAny (model prog w) A (execs l env) Q E s := by
  subst e; exact wpAny_execs_nil h
theorem ex_ret {e : Expr} {pos : Pos} {l rest : List Stmt} {D' : Addr → Prop} {α : Type} {T : Ty α} {y : α} {Q : Flow → Shared → Prop} {E : Value → Shared → Prop} (X : Ex g s₁ D' env s ρ) (sub : ∀ b, D b → D' b)
    (hq : ∀ v s', Keeps s₁ s' → T.is D s'.heap v y → Q (.ret v) s') (he : Has prog w A D' s (eval e env) T y) (hl : l = .Return (some e) pos :: rest := by rfl) :
    wpAny (model prog w) A (execs l env) Q E s :=
  ex_cons (ex_return X he fun v s' k hv => hq v s' (keeps_trans X.kp k) (T.wide (fun a _ _ d => sub a d) hv)) hl
theorem ex_if2 {t : Expr} {body orelse : List Stmt} {pos : Pos} {b : Bool} {Q : Flow → Shared → Prop} {E : Value → Shared → Prop} (X : Ex g s₀ D env s ρ) (ht : Tst prog w A D s t env b)
    (h1 : b = true → ∀ s', Ex g s₀ D env s' ρ → Keeps s s' → wpAny (model prog w) A (execs body env) Q E s')
    (h2 : b = false → ∀ s', Ex g s₀ D env s' ρ → Keeps s s' → wpAny (model prog w) A (execs orelse env) Q E s') :
    wpAny (model prog w) A (exec (.If t body orelse pos) env) Q E s :=
  ex_if X ht fun s' X' k => by
    cases b with
    | true => exact h1 rfl s' X' k
    | false => exact h2 rfl s' X' k

theorem Hs.cast {β : Type} {t : Sem β} {P P' : Heap → β → Prop} (h : Hs prog w A D s t P) (e : P = P') : Hs prog w A D s t P' := e ▸ h
theorem Has.val {α : Type} {t : Sem Value} {T : Ty α} {x y : α} (h : Has prog w A D s t T x) (e : x = y) : Has prog w A D s t T y := e ▸ h
theorem Tst.val {e : Expr} {b c : Bool} (h : Tst prog w A D s e env b) (q : b = c) : Tst prog w A D s e env c := q ▸ h

/-- an implicit global of the frame -/
theorem has_gl (C : Cx g mg mb) (K : Kinds sc env) {x : Str} {pos : Pos} {v : Value} (X : Ex g s₀ D env s ρ) (hk : sc.names.lookup x = some .globalImplicit) (hv : gl mg mb x = some v)
    (hd : (x == ("__debug__" : Str)) = false) : Has prog w A D s (eval (.Name x pos) env) tVal v := has_glob C.W X (K.kd hk (by decide)) hv hd

theorem st1 {e : Expr} {es : List Expr} (h : isStarred e = false) : starEach (e :: es) env = (false, eval e env) :: starEach es env := by
  cases e <;> first | rfl | (simp [isStarred] at h)
theorem nost1 {e : Expr} (h : isStarred e = false) : ∀ e' ∈ [e], isStarred e' = false := by simp [h]
theorem nost2 {e f : Expr} (h : isStarred e = false) (h' : isStarred f = false) : ∀ e' ∈ [e, f], isStarred e' = false := by simp [h, h']

variable {px pos : Pos}
section one
variable {e : Expr} (C : Cx g mg mb) (K : Kinds sc env) (X : Ex g s₀ D env s ρ)
include C K X
theorem e_len {α : Type} {T : Ty α} {xs : List α} (he : Has prog w A D s (eval e env) (tList T) xs) (hsz : xs.length ≤ 1000) (hk : sc.names.lookup ("len" : Str) = some .globalImplicit := by decide +kernel) (hst : isStarred e = false := by rfl) :
    Has prog w A D s (eval (.Call (.Name "len" px) [e] [] pos) env) tInt xs.length := has_len (has_gl C K X hk C.B.len (by decide +kernel)) he hsz (st1 hst) (nost1 hst)
theorem e_abs {i : Int} (he : Has prog w A D s (eval e env) tInt i) (hk : sc.names.lookup ("abs" : Str) = some .globalImplicit := by decide +kernel) (hst : isStarred e = false := by rfl) :
    Has prog w A D s (eval (.Call (.Name "abs" px) [e] [] pos) env) tInt (if i < 0 then -i else i) := has_abs (has_gl C K X hk C.B.abs (by decide +kernel)) he (st1 hst) (nost1 hst)
theorem e_int {b : Bool} (he : Has prog w A D s (eval e env) tBool b) (hk : sc.names.lookup ("int" : Str) = some .globalImplicit := by decide +kernel) (hst : isStarred e = false := by rfl) :
    Has prog w A D s (eval (.Call (.Name "int" px) [e] [] pos) env) tInt (if b then 1 else 0) := has_intb (has_gl C K X hk C.B.int (by decide +kernel)) he (st1 hst) (nost1 hst)
theorem e_sum {xs : List Int} (hh : A.handled = none) (he : Has prog w A D s (eval e env) (tList tInt) xs) (hk : sc.names.lookup ("sum" : Str) = some .globalImplicit := by decide +kernel) (hst : isStarred e = false := by rfl) :
    Has prog w A D s (eval (.Call (.Name "sum" px) [e] [] pos) env) tInt xs.sum := has_sum hh (has_gl C K X hk C.B.sum (by decide +kernel)) he (st1 hst) (nost1 hst)
theorem e_min {xs : List Int} (hh : A.handled = none) (he : Has prog w A D s (eval e env) (tList tInt) xs) (hne : 0 < xs.length) (hk : sc.names.lookup ("min" : Str) = some .globalImplicit := by decide +kernel) (hst : isStarred e = false := by rfl) :
    Has prog w A D s (eval (.Call (.Name "min" px) [e] [] pos) env) tInt (leastL xs) := has_min hh (has_gl C K X hk C.B.min (by decide +kernel)) he hne (st1 hst) (nost1 hst)
theorem i_range1 {b : Int} {tg : Expr} (hh : A.handled = none) (he : Has prog w A D s (eval e env) tInt b) (hb : 0 ≤ b) (hb2 : b ≤ 100000) (hk : sc.names.lookup ("range" : Str) = some .globalImplicit := by decide +kernel) (hst : isStarred e = false := by rfl) :
    Iters prog w A D s (.Call (.Name "range" px) [e] [] pos) env tInt tg (rangeL 0 b.toNat) := iters_range1 hh (has_gl C K X hk C.B.range (by decide +kernel)) he hb hb2 (st1 hst) (nost1 hst)
theorem i_enum {α : Type} {T : Ty α} {xs : List α} {els : List Expr} {kk : Nat} {pt : Pos} (hh : A.handled = none) (he : Has prog w A D s (eval e env) (tList T) xs) (hk : sc.names.lookup ("enumerate" : Str) = some .globalImplicit := by decide +kernel) (hst : isStarred e = false := by rfl) :
    Iters prog w A D s (.Call (.Name "enumerate" px) [e] [] pos) env (tPair tInt T) (.Tuple els kk pt) (enumL 0 xs) := iters_enum hh (has_gl C K X hk C.B.enumerate (by decide +kernel)) he (st1 hst) (nost1 hst)
end one
section two
variable {a b : Expr} (C : Cx g mg mb) (K : Kinds sc env) (X : Ex g s₀ D env s ρ)
include C K X
theorem e_min2 {i j : Int} (hh : A.handled = none) (ha : Has prog w A D s (eval a env) tInt i) (hb : Has prog w A D s (eval b env) tInt j) (hk : sc.names.lookup ("min" : Str) = some .globalImplicit := by decide +kernel) (h1 : isStarred a = false := by rfl) (h2 : isStarred b = false := by rfl) :
    Has prog w A D s (eval (.Call (.Name "min" px) [a, b] [] pos) env) tInt (if j < i then j else i) := has_min2 hh (has_gl C K X hk C.B.min (by decide +kernel)) ha hb (st1 h1) (st1 h2) (nost2 h1 h2)
theorem e_max2 {i j : Int} (hh : A.handled = none) (ha : Has prog w A D s (eval a env) tInt i) (hb : Has prog w A D s (eval b env) tInt j) (hk : sc.names.lookup ("max" : Str) = some .globalImplicit := by decide +kernel) (h1 : isStarred a = false := by rfl) (h2 : isStarred b = false := by rfl) :
    Has prog w A D s (eval (.Call (.Name "max" px) [a, b] [] pos) env) tInt (if j > i then j else i) := has_max2 hh (has_gl C K X hk C.B.max (by decide +kernel)) ha hb (st1 h1) (st1 h2) (nost2 h1 h2)
theorem i_range2 {i j : Int} {tg : Expr} (hh : A.handled = none) (ha : Has prog w A D s (eval a env) tInt i) (hb : Has prog w A D s (eval b env) tInt j) (h0 : 0 ≤ i) (hij : i ≤ j) (hj : j ≤ 100000) (hk : sc.names.lookup ("range" : Str) = some .globalImplicit := by decide +kernel) (h1 : isStarred a = false := by rfl) (h2 : isStarred b = false := by rfl) :
    Iters prog w A D s (.Call (.Name "range" px) [a, b] [] pos) env tInt tg (rangeL i (j - i).toNat) := iters_range2 hh (has_gl C K X hk C.B.range (by decide +kernel)) ha hb h0 hij hj (st1 h1) (st1 h2) (nost2 h1 h2)
end two

/-- a call of a global def with one argument -/
theorem e_call1 {x : Str} {f : Value} {e : Expr} {α : Type} (T : Ty α) (y : α) {P : Heap → Value → Prop} (C : Cx g mg mb) (K : Kinds sc env) (X : Ex g s₀ D env s ρ) (hf : gl mg mb x = some f) (c : Callee g f) (he : Has prog w A D s (eval e env) T y)
    (h : ∀ s₁ v, Keeps s s₁ → T.is D s₁.heap v y → Hs prog w A D s₁ (call f [v]) P) (hk : sc.names.lookup x = some .globalImplicit := by decide +kernel) (hd : (x == ("__debug__" : Str)) = false := by decide +kernel) (hst : isStarred e = false := by rfl) :
    Hs prog w A D s (eval (.Call (.Name x px) [e] [] pos) env) P :=
  hs_call (has_gl C K X hk hf hd) (c.sub X.subs) (hsl_cons he hsl_nil (st1 hst)) (fun s₁ vs k a => by
    obtain ⟨v, rfl, hv⟩ := a.one
    exact h s₁ v k hv) (nost1 hst)
theorem e_call2 {x : Str} {f : Value} {a b : Expr} {α β : Type} (T : Ty α) (y : α) (U : Ty β) (z : β) {P : Heap → Value → Prop} (C : Cx g mg mb) (K : Kinds sc env) (X : Ex g s₀ D env s ρ) (hf : gl mg mb x = some f) (c : Callee g f)
    (ha : Has prog w A D s (eval a env) T y) (hb : Has prog w A D s (eval b env) U z)
    (h : ∀ s₁ u v, Keeps s s₁ → T.is D s₁.heap u y → U.is D s₁.heap v z → Hs prog w A D s₁ (call f [u, v]) P) (hk : sc.names.lookup x = some .globalImplicit := by decide +kernel) (hd : (x == ("__debug__" : Str)) = false := by decide +kernel)
    (h1 : isStarred a = false := by rfl) (h2 : isStarred b = false := by rfl) :
    Hs prog w A D s (eval (.Call (.Name x px) [a, b] [] pos) env) P :=
  hs_call (has_gl C K X hk hf hd) (c.sub X.subs) (hsl_cons ha (hsl_cons hb hsl_nil (st1 h2)) (st1 h1)) (fun s₁ vs k a => by
    obtain ⟨u, v, rfl, hu, hv⟩ := a.two
    exact h s₁ u v k hu hv) (nost2 h1 h2)

section comps
variable {scope : Scope} (K : Kinds sc env)
include K
theorem e_compN {elt iter : Expr} {n : Str} {pn : Pos} {ifs : List Expr} {α β : Type} {T : Ty α} {U : Ty β} (p : α → Bool) (f : α → β) {xs : List α}
    (X : Ex g s₀ D env s ρ) (hi : Iters prog w A D s iter env T (.Name n pn) xs) (hsz : xs.length ≤ 9000)
    (ht : ∀ x ∈ xs, ∀ env' s' D' s₁, Keeps s s' → Kinds scope env' → Ex g s' D' env' s₁ (upd (pick (freeOf scope) ρ) n ⟨T, x⟩) → Tests prog w A D' s₁ ifs env' (p x))
    (he : ∀ x ∈ xs, p x = true → ∀ env' s' D' s₁, Keeps s s' → Kinds scope env' → Ex g s' D' env' s₁ (upd (pick (freeOf scope) ρ) n ⟨T, x⟩) → Has prog w A D' s₁ (eval elt env') U (f x))
    (hfree : ∀ x ∈ freeOf scope, sc.names.lookup x = some .cell ∨ sc.names.lookup x = some .free := by decide +kernel) (hk : scope.kind = .function := by rfl)
    (hln : ∀ x ∈ scope.names, x.2 = .local → scope.names.lookup x.1 = some .local := by decide +kernel)
    (hp : ∀ z ∈ freeOf scope, scope.names.lookup z = some .free ∧ (z, NameKind.cell) ∉ scope.names ∧ (z == ("__classdict__" : Str)) = false := by decide +kernel)
    (hn : scope.names.lookup n = some .local ∨ scope.names.lookup n = some .cell := by decide +kernel) (hfl : (freeOf scope).contains n = false := by decide +kernel)
    (hs : ∀ x, foldedSetIterable iter env x = pure x := by intro _; rfl) :
    Has prog w A D s (eval (.ListComp elt [⟨.Name n pn, iter, ifs, 0⟩] scope pos) env) (tList U) ((xs.filter p).map f) :=
  has_compN X hi (compScope_mk K hfree hk hln hp) hsz hn hfl ht he hs
theorem e_compP {elt iter : Expr} {n m : Str} {pn pm pt : Pos} {kt : Nat} {ifs : List Expr} {α α' β : Type} {T : Ty α} {T' : Ty α'} {U : Ty β} (p : α × α' → Bool) (f : α × α' → β) {xs : List (α × α')}
    (hh : A.handled = none) (X : Ex g s₀ D env s ρ) (hi : Iters prog w A D s iter env (tPair T T') (.Tuple [.Name n pn, .Name m pm] kt pt) xs) (hsz : xs.length ≤ 9000)
    (ht : ∀ x ∈ xs, ∀ env' s' D' s₁, Keeps s s' → Kinds scope env' → Ex g s' D' env' s₁ (upd (upd (pick (freeOf scope) ρ) n ⟨T, x.1⟩) m ⟨T', x.2⟩) → Tests prog w A D' s₁ ifs env' (p x))
    (he : ∀ x ∈ xs, p x = true → ∀ env' s' D' s₁, Keeps s s' → Kinds scope env' → Ex g s' D' env' s₁ (upd (upd (pick (freeOf scope) ρ) n ⟨T, x.1⟩) m ⟨T', x.2⟩) → Has prog w A D' s₁ (eval elt env') U (f x))
    (hfree : ∀ x ∈ freeOf scope, sc.names.lookup x = some .cell ∨ sc.names.lookup x = some .free := by decide +kernel) (hk : scope.kind = .function := by rfl)
    (hln : ∀ x ∈ scope.names, x.2 = .local → scope.names.lookup x.1 = some .local := by decide +kernel)
    (hp : ∀ z ∈ freeOf scope, scope.names.lookup z = some .free ∧ (z, NameKind.cell) ∉ scope.names ∧ (z == ("__classdict__" : Str)) = false := by decide +kernel)
    (hn : scope.names.lookup n = some .local ∨ scope.names.lookup n = some .cell := by decide +kernel) (hfl : (freeOf scope).contains n = false := by decide +kernel)
    (hm : scope.names.lookup m = some .local ∨ scope.names.lookup m = some .cell := by decide +kernel) (hfm : (freeOf scope).contains m = false := by decide +kernel)
    (hs : ∀ x, foldedSetIterable iter env x = pure x := by intro _; rfl) :
    Has prog w A D s (eval (.ListComp elt [⟨.Tuple [.Name n pn, .Name m pm] kt pt, iter, ifs, 0⟩] scope pos) env) (tList U) ((xs.filter p).map f) :=
  has_compP hh X hi (compScope_mk K hfree hk hln hp) hsz hn hfl hm hfm ht he hs
theorem e_comp2 {elt it0 it1 : Expr} {n m : Str} {pn pm : Pos} {ifs : List Expr} {α α' β : Type} {T : Ty α} {T' : Ty α'} {U : Ty β} {xs : List α} (ys : α → List α') (p : α → α' → Bool) (f : α → α' → β)
    (X : Ex g s₀ D env s ρ) (hi : Iters prog w A D s it0 env T (.Name n pn) xs)
    (hsz : (xs.flatMap fun x => ((ys x).filter (p x)).map (f x)).length ≤ 9000) (hsz' : ∀ x ∈ xs, (ys x).length ≤ 1000)
    (hi1 : ∀ x ∈ xs, ∀ env' s' D' s₁, Keeps s s' → Kinds scope env' → Ex g s' D' env' s₁ (upd (pick (freeOf scope) ρ) n ⟨T, x⟩) → Iters prog w A D' s₁ it1 env' T' (.Name m pm) (ys x))
    (ht : ∀ x ∈ xs, ∀ y ∈ ys x, ∀ env' s' D' s₁, Keeps s s' → Kinds scope env' → Ex g s' D' env' s₁ (upd (upd (pick (freeOf scope) ρ) n ⟨T, x⟩) m ⟨T', y⟩) → Tests prog w A D' s₁ ifs env' (p x y))
    (he : ∀ x ∈ xs, ∀ y ∈ ys x, p x y = true → ∀ env' s' D' s₁, Keeps s s' → Kinds scope env' → Ex g s' D' env' s₁ (upd (upd (pick (freeOf scope) ρ) n ⟨T, x⟩) m ⟨T', y⟩) → Has prog w A D' s₁ (eval elt env') U (f x y))
    (hfree : ∀ x ∈ freeOf scope, sc.names.lookup x = some .cell ∨ sc.names.lookup x = some .free := by decide +kernel) (hk : scope.kind = .function := by rfl)
    (hln : ∀ x ∈ scope.names, x.2 = .local → scope.names.lookup x.1 = some .local := by decide +kernel)
    (hp : ∀ z ∈ freeOf scope, scope.names.lookup z = some .free ∧ (z, NameKind.cell) ∉ scope.names ∧ (z == ("__classdict__" : Str)) = false := by decide +kernel)
    (hn : scope.names.lookup n = some .local ∨ scope.names.lookup n = some .cell := by decide +kernel) (hfl : (freeOf scope).contains n = false := by decide +kernel)
    (hm : scope.names.lookup m = some .local ∨ scope.names.lookup m = some .cell := by decide +kernel) (hfm : (freeOf scope).contains m = false := by decide +kernel) (hnm : n ≠ m := by decide +kernel)
    (hs : ∀ x, foldedSetIterable it0 env x = pure x := by intro _; rfl) (hs1 : ∀ env' x, foldedSetIterable it1 env' x = pure x := by intro _ _; rfl) :
    Has prog w A D s (eval (.ListComp elt [⟨.Name n pn, it0, [], 0⟩, ⟨.Name m pm, it1, ifs, 0⟩] scope pos) env) (tList U) (xs.flatMap fun x => ((ys x).filter (p x)).map (f x)) :=
  has_comp2 X hi (compScope_mk K hfree hk hln hp) hsz hsz' hn hfl hm hfm hnm hi1 ht he hs hs1
end comps
end
end Mine

end
section

open PySem PySem.W PyProof.Rows PySem.Calls
namespace Mine

/-- names told by ρ' are so in ρ -/
def RLe (ρ' ρ : Rho) : Prop := ∀ z e, ρ' z = some e → ρ z = some e
theorem RLe.refl (ρ : Rho) : RLe ρ ρ := fun _ _ e => e
theorem RLe.none {ρ : Rho} : RLe (fun _ => none) ρ := fun _ _ h => nomatch h
theorem RLe.upd {ρ' ρ : Rho} {x : Str} {e : Ent} (h : RLe ρ' ρ) (hx : ρ x = some e) : RLe (upd ρ' x e) ρ := fun z e' q => by
  unfold Mine.upd at q
  split at q
  · rename_i hz; cases q; subst hz; exact hx
  · exact h z e' q

section
variable {prog : Program} {w : World} {A : Around} {D : Addr → Prop} {s s₁ s₀ : Shared} {g : Heap} {env : Env} {ρ : Rho} {mg mb : Str → Option Value} {sc : Scope} {px pos : Pos}

theorem has_or {a b : Expr} {x y : Bool} (ha : Has prog w A D s (eval a env) tBool x) (hb : Has prog w A D s (eval b env) tBool y) : Has prog w A D s (eval (.BoolOp .Or [a, b] pos) env) tBool (x || y) := fun s' k l => by
  refine BoolOp_or (wpAny_mono (ha s' k l) (fun v s₁ h => ?_) fun _ _ e => e)
  obtain ⟨k₁, rfl⟩ := h
  refine wpAny_truthy_bool ?_
  cases x with
  | true => exact ⟨k₁, rfl⟩
  | false => exact BoolOp_one (wpAny_mono (hb s₁ (keeps_trans k k₁) (live_keeps l k₁)) (fun v s₂ h => ⟨keeps_trans k₁ h.1, h.2⟩) fun _ _ e => e)
/-- a value's «and»: the items behind the first are reached only where it holds -/
theorem has_and {a b : Expr} {rest : List Expr} {x y : Bool} (ha : Has prog w A D s (eval a env) tBool x) (hb : x = true → Has prog w A D s (eval (.BoolOp .And (b :: rest) pos) env) tBool y) : Has prog w A D s (eval (.BoolOp .And (a :: b :: rest) pos) env) tBool (x && y) := fun s' k l => by
  refine BoolOp_and (wpAny_mono (ha s' k l) (fun v s₁ h => ?_) fun _ _ e => e)
  obtain ⟨k₁, rfl⟩ := h
  refine wpAny_truthy_bool ?_
  cases x with
  | false => exact ⟨k₁, rfl⟩
  | true => exact wpAny_mono (hb rfl s₁ (keeps_trans k k₁) (live_keeps l k₁)) (fun v s₂ h => ⟨keeps_trans k₁ h.1, h.2⟩) fun _ _ e => e
theorem has_and1 {a : Expr} {x : Bool} (ha : Has prog w A D s (eval a env) tBool x) : Has prog w A D s (eval (.BoolOp .And [a] pos) env) tBool x := fun s' k l => BoolOp_one (ha s' k l)

/-- list(range) -/
theorem has_listrange {b : Expr} {i : Int} {px' pos' : Pos} (C : Cx g mg mb) (K : Kinds sc env) (X : Ex g s₀ D env s ρ) (hh : A.handled = none) (he : Has prog w A D s (eval b env) tInt i) (h0 : 0 ≤ i) (hi : i ≤ 100000)
    (hk : sc.names.lookup ("list" : Str) = some .globalImplicit := by decide +kernel) (hk' : sc.names.lookup ("range" : Str) = some .globalImplicit := by decide +kernel) (hst : isStarred b = false := by rfl) :
    Has prog w A D s (eval (.Call (.Name "list" px) [.Call (.Name "range" px') [b] [] pos'] [] pos) env) (tList tInt) (rangeL 0 i.toNat) := by
  have hr : Hs prog w A D s (eval (.Call (.Name "range" px') [b] [] pos') env) fun h v => ∃ r t u t', v = .ref r ∧ IsRange h r 0 i 1 t u t' :=
    hs_call (has_gl C K X hk' C.B.range (by decide +kernel)) (.inl fun _ h => nomatch h) (hsl_cons he hsl_nil (st1 hst)) (fun s₁ vs k a => by
      obtain ⟨v, rfl, t, rfl⟩ := a.one
      exact Hs.of fun s' Q k' l h => call_range_1 (h _ _ (keeps_push_toks _ _ _) ⟨_, _, _, _, rfl, Heap.get?_push_size _ rfl⟩)) (nost1 hst)
  show Has prog w A D s (eval (.Name "list" px) env >>= fun v => callWith pos v [] (backTo pos (starEach [.Call (.Name "range" px') [b] [] pos'] env)) (backToKw pos (keywordEach [] env))) (tList tInt) _
  refine Hs.bind (has_gl C K X hk C.B.list (by decide +kernel)) fun s₁ v k hv => ?_
  cases hv
  refine fun s' k' l => callWith_of (P := fun h => Callee h (.type "list")) (by rw [starEach_backTo_plain (nost1 rfl)]; rfl) (fun h x => x.keeper) (evalArgs_of (nost1 rfl) ?_)
  refine spliced_more (wpAny_mono (hr s' (keeps_trans k k') l) (fun v s₂ h => ?_) fun _ _ e => e) (st1 rfl)
  obtain ⟨k2, r, t, u, t', rfl, hr'⟩ := h
  refine spliced_none ⟨.inl fun _ h => (nomatch h), ?_⟩
  have hsz : Builtin.Range.rangeSize 0 i 1 = (i.toNat : Nat) := by rw [size_range i h0]; omega
  refine call_list_range hh hr' (small_range 0 i h0 (by decide) hi) hsz (by omega) fun h' tk acc' c' hk hS hacc => ?_
  have k3 : Keeps s₂ { s₂ with heap := h', toks := tk } := ⟨h', tk, rfl, hk⟩
  refine ⟨keeps_trans k2 k3, _, c', acc'.toList, rfl, live_fresh (live_keeps l k2), by simpa using hS, ?_⟩
  obtain ⟨hs, hv⟩ := hacc
  have key : ∀ (n : Nat) (a : Int) (vs : List Value), vs.length = n → (∀ (j : Nat) (v : Value), vs[j]? = some v → ∃ t, v = Value.int (a + j * 1) t) → Paired (tInt.is D h') vs (rangeL a n) := by
    intro n
    induction n with
    | zero => intro a vs hl _; rw [List.eq_nil_of_length_eq_zero hl]; exact .nil
    | succ n ih =>
      intro a vs hl h
      cases vs with
      | nil => simp at hl
      | cons v vs =>
        obtain ⟨t, rfl⟩ := h 0 v rfl
        refine .cons ⟨t, by simp⟩ (ih (a + 1) vs (by simpa using hl) fun j v hj => ?_)
        obtain ⟨t, rfl⟩ := h (j + 1) v (by simpa using hj)
        exact ⟨t, by congr 1; push_cast; omega⟩
  exact key _ _ _ (by simpa using hs) fun j v hj => by simpa using hv j v (by simpa using hj)

/-- a pattern of two -/
theorem asg_two {a b : Expr} {p : Pos} {k : Nat} {α β : Type} {T : Ty α} {U : Ty β} {f : Rho → α → Rho} {h : Rho → β → Rho} (hh : A.handled = none) (ha : Asg prog w A g s₀ D env a T f) (hb : Asg prog w A g s₀ D env b U h)
    (he : assignEach [a, b] env = [(false, assign a env), (false, assign b env)] := by rfl) :
    Asg prog w A g s₀ D env (.Tuple [a, b] k p) (tPair T U) fun ρ x => h (f ρ x.1) x.2 := by
  intro s ρ v x Q E X hv q
  obtain ⟨t, n, u, y, rfl, hd, hg, hu, hy⟩ := hv
  refine wpAny_assign_Tuple hh (isTuple_of hg) (by rw [he]; rfl) (by rw [he]; rfl) fun h' hs => ?_
  have kk : Keeps s { s with heap := h' } := ⟨h', s.toks, rfl, fun b o e => hs b o (fun z => Nat.lt_irrefl _ (z ▸ Heap.lt_size e)) e⟩
  rw [he]
  show wpAny _ _ (assignInOrder [assign a env, assign b env] [u, y]) _ _ _
  refine wpAny_assignInOrder_more (ha (X.up kk) (T.mono (keeps_le kk D) hu) fun s₂ X₂ o₂ => wpAny_assignInOrder_more (hb X₂ (U.mono o₂.calm.le (U.mono (keeps_le kk D) hy)) fun s₃ X₃ o₃ =>
    wpAny_assignInOrder_none (q s₃ X₃ (others_trans (others_keeps kk) (others_trans o₂ o₃)))))

theorem ex_assign_pat {elts : List Expr} {k : Nat} {tp : Pos} {e : Expr} {α : Type} {T : Ty α} {y : α} {bnd : Rho → α → Rho} {Q : Flow → Shared → Prop} {E : Value → Shared → Prop} (X : Ex g s₀ D env s ρ) (he : Has prog w A D s (eval e env) T y) (ha : Asg prog w A g s₀ D env (.Tuple elts k tp) T bnd)
    (h : ∀ s', Ex g s₀ D env s' (bnd ρ y) → Others D env s s' → Q .next s') (hs : swapsWithSole [.Tuple elts k tp] e pos.line env = pure false := by rfl)
    (hw : swappedStores [.Tuple elts k tp] e env = pure none := by rfl) : wpAny (model prog w) A (exec (.Assign [.Tuple elts k tp] e pos) env) Q E s :=
  Assign_Tuple (he.use X.live fun v s' k hv => ha (X.up k) hv fun s'' X'' ot => h s'' X'' (others_trans (others_keeps k) ot)) hs hw

theorem swapped_folded {ts vs : List Expr} {k k' : Nat} {p p' : Pos} (hf : vs.all (foldedForSure 8) = true) : swappedStores [.Tuple ts k p] (.Tuple vs k' p') env = pure none := by
  unfold swappedStores
  simp only [hf, if_true]
  repeat (first | rfl | split)
theorem swapped_deep {a : Expr} {bs vs : List Expr} {k k2 k' : Nat} {p p2 p' : Pos} : swappedStores [.Tuple [a, .Tuple bs k2 p2] k p] (.Tuple vs k' p') env = pure none := by
  unfold swappedStores
  dsimp only
  split
  · rfl
  split
  · rfl
  rw [if_pos]
  · have : ∀ {β : Type} (f : Expr → Option β), f (.Tuple bs k2 p2) = none → (([a, .Tuple bs k2 p2] : List Expr).filterMap f).length ≤ 1 := fun f h => by
      simp only [List.filterMap_cons, h, List.filterMap_nil]
      split <;> simp
    have h := this (fun
      | .Name id pos => if env.kindOf id == some .local && pos.line == ((([a, .Tuple bs k2 p2] : List Expr).head?.map (·.pos.line)).getD 0) then some id else none
      | _ => none) rfl
    simp only [Bool.or_eq_true, bne_iff_ne, ne_eq]
    left
    show ¬ _ = 2
    intro e
    have h2 := Nat.le_trans (Nat.le_of_eq e.symm) h
    omega

/-- a loop whose turn maps a state -/
theorem ex_for_st {tg iter : Expr} {body : List Stmt} {α β : Type} {T : Ty α} {xs : List α} {bnd : Rho → α → Rho} {Q : Flow → Shared → Prop} {E : Value → Shared → Prop} (R : β → Rho) (J : β → Shared → Prop) (step : β → α → β) (b₀ : β)
    (X : Ex g s₀ D env s (R b₀)) (j₀ : J b₀ s) (hj : ∀ b s₁ s₂, J b s₁ → Oth env s₁ s₂ → Le D s₁.heap s₂.heap → J b s₂)
    (hi : ItersF prog w A D s iter env T tg xs) (ha : Asg prog w A g s₀ D env tg T bnd)
    (turn : ∀ done x rem s₂, xs = done ++ x :: rem → Ex g s₀ D env s₂ (bnd (R (done.foldl step b₀)) x) → J (done.foldl step b₀) s₂ → Calm D s s₂ → wpAny (model prog w) A (execs body env) (fun f s₃ => match f with
      | .next | .cont => (∃ ρ₃, Ex g s₀ D env s₃ ρ₃ ∧ RLe (R (step (done.foldl step b₀) x)) ρ₃) ∧ J (step (done.foldl step b₀) x) s₃ ∧ Calm D s₂ s₃
      | .brk => False
      | .ret v => Q (.ret v) s₃) NE s₂)
    (fin : ∀ s₂, Ex g s₀ D env s₂ (R (xs.foldl step b₀)) → J (xs.foldl step b₀) s₂ → Calm D s s₂ → Q .next s₂)
    (hs : ∀ x, foldedSetIterable iter env x = pure x := by intro _; rfl) : wpAny (model prog w) A (exec (.For tg iter body [] pos) env) Q E s := by
  have le_of : ∀ {s₁ s₂ : Shared}, Oth env s₁ s₂ → Le D s₁.heap s₂.heap := fun o b ob nd f e => o b ob e (fun q => nd (q ▸ X.fm.volL)) f
  refine ex_for X hi ha (fun rem ρ₁ s₁ => ∃ done, xs = done ++ rem ∧ ρ₁ = R (done.foldl step b₀) ∧ J (done.foldl step b₀) s₁) (fun s' k => ⟨[], rfl, rfl, hj _ _ _ j₀ (oth_keeps k) (keeps_le k D)⟩) (fun x rem ρ₁ s₁ s₂ hI X₂ o₂ c₂ => ?_) (fun ρ₁ s₁ s₂ hI X₂ o₂ c₂ => ?_) hs
  · obtain ⟨done, hx, rfl, j₁⟩ := hI
    refine wpAny_mono (turn done x rem s₂ hx X₂ (hj _ _ _ j₁ o₂ (le_of o₂)) c₂) (fun f s₃ h => ?_) fun _ _ e => e
    have go : ((∃ ρ₃, Ex g s₀ D env s₃ ρ₃ ∧ RLe (R (step (done.foldl step b₀) x)) ρ₃) ∧ J (step (done.foldl step b₀) x) s₃ ∧ Calm D s₂ s₃) →
        (∃ ρ₃, Ex g s₀ D env s₃ ρ₃ ∧ ∃ done, xs = done ++ rem ∧ ρ₃ = R (done.foldl step b₀) ∧ J (done.foldl step b₀) s₃) ∧ Calm D s₂ s₃ := fun ⟨⟨ρ₃, X₃, r⟩, j₃, c₃⟩ =>
      ⟨⟨_, X₃.weak r, done ++ [x], by rw [hx]; simp, by simp, by simpa using j₃⟩, c₃⟩
    cases f with
    | next => exact go h
    | cont => exact go h
    | brk => exact h
    | ret v => exact h
  · obtain ⟨done, hx, rfl, j₁⟩ := hI
    have hd : done = xs := by simpa using hx.symm
    subst hd
    exact fin s₂ X₂ (hj _ _ _ j₁ o₂ (le_of o₂)) c₂

theorem has_neg {a : Expr} {x : Int} (ha : Has prog w A D s (eval a env) tInt x) : Has prog w A D s (eval (.UnaryOp .USub a pos) env) tInt (-x) := fun s' k l =>
  UnaryOp_ (wpAny_mono (ha s' k l) (fun v s₁ h => by
    obtain ⟨k₁, t, rfl⟩ := h
    exact PyProof.Rows.neg_int ⟨keeps_trans k₁ (keeps_toks _ _), _, rfl⟩) fun _ _ e => e)

section
variable {l r : Expr} {α β : Type} {T : Ty α} {U : Ty β} (hu : A.units ≤ 9000)
include hu
theorem has_isnil {xs : List α} (ha : Has prog w A D s (eval l env) (tList T) xs) (hb : Has prog w A D s (eval r env) (tList U) []) (hm : behindInMarks .Eq r = false := by with_unfolding_all rfl) : Has prog w A D s (eval (.Compare l [.Eq] [r] pos) env) tBool xs.isEmpty :=
  hs_cmp ha hb (fun _ _ _ _ h1 h2 => cmp_eq_nil (by omega) h1 h2) hm
theorem tst_isnil {xs : List α} (ha : Has prog w A D s (eval l env) (tList T) xs) (hb : Has prog w A D s (eval r env) (tList U) []) (hm : behindInMarks .Eq r = false := by with_unfolding_all rfl) : Tst prog w A D s (.Compare l [.Eq] [r] pos) env xs.isEmpty :=
  tst_cmp ha hb (fun _ _ _ _ h1 h2 => cmp_eq_nil (by omega) h1 h2) hm
theorem tst_notnil {xs : List α} (ha : Has prog w A D s (eval l env) (tList T) xs) (hb : Has prog w A D s (eval r env) (tList U) []) (hm : behindInMarks .NotEq r = false := by with_unfolding_all rfl) : Tst prog w A D s (.Compare l [.NotEq] [r] pos) env (!xs.isEmpty) :=
  tst_cmp ha hb (fun _ _ _ _ h1 h2 => cmp_ne_nil (by omega) h1 h2) hm
end
section
variable {l r : Expr} {x : Int × Int} {xs : List (Int × Int)} (hu : A.units ≤ 9000) (ha : Has prog w A D s (eval l env) tEdge x) (hb : Has prog w A D s (eval r env) (tList tEdge) xs)
include hu ha hb
theorem has_in (hm : behindInMarks .In r = false := by with_unfolding_all rfl) : Has prog w A D s (eval (.Compare l [.In] [r] pos) env) tBool (xs.any fun y => decide (y = x)) := hs_cmp ha hb (fun _ _ _ _ h1 h2 => cmp_in eqOk_edge hu h1 h2) hm
theorem tst_in (hm : behindInMarks .In r = false := by with_unfolding_all rfl) : Tst prog w A D s (.Compare l [.In] [r] pos) env (xs.any fun y => decide (y = x)) := tst_cmp ha hb (fun _ _ _ _ h1 h2 => cmp_in eqOk_edge hu h1 h2) hm
theorem tst_notin (hm : behindInMarks .NotIn r = false := by with_unfolding_all rfl) : Tst prog w A D s (.Compare l [.NotIn] [r] pos) env (!xs.any fun y => decide (y = x)) := tst_cmp ha hb (fun _ _ _ _ h1 h2 => cmp_notin eqOk_edge hu h1 h2) hm
end
end

theorem mem_rangeL {x : Int} : ∀ {n : Nat} {a : Int}, x ∈ rangeL a n → a ≤ x ∧ x < a + n
  | 0, _, h => nomatch h
  | n + 1, a, h => by
    cases h with
    | head => omega
    | tail _ h => have := mem_rangeL (n := n) h; omega
theorem rangeL_len : ∀ (n : Nat) (a : Int), (rangeL a n).length = n
  | 0, _ => rfl
  | n + 1, a => by rw [rangeL, List.length_cons, rangeL_len n]
theorem rangeL_nodup : ∀ (n : Nat) (a : Int), (rangeL a n).Nodup
  | 0, _ => List.nodup_nil
  | n + 1, a => by
    rw [rangeL, List.nodup_cons]
    exact ⟨fun h => by have := mem_rangeL h; omega, rangeL_nodup n (a + 1)⟩
theorem getD_of {α : Type} {xs : List α} {i : Nat} (d : α) (h : i < xs.length) : xs[i]? = some (xs.getD i d) := by
  rw [List.getD_eq_getElem?_getD, List.getElem?_eq_getElem h]; rfl
theorem last_of {α : Type} {xs : List α} (d : α) (h : 0 < xs.length) : xs.getLast? = some (xs.getLastD d) := by
  cases xs with
  | nil => simp at h
  | cons x xs => simp [List.getLast?_cons]
end Mine

end
section
set_option maxRecDepth 100000
open PySem PySem.W PyProof.Rows PySem.Calls
namespace Mine

-- keys of texts and ints
def mixIs : Str ⊕ Int → Value → Bool
  | .inl x, v => Value.isStrOf x v
  | .inr i, v => Value.isInt i v
def mixHash (w : World) : Str ⊕ Int → Int
  | .inl x => hashStr w x
  | .inr i => hashInt i
theorem mix_shape {k : Str ⊕ Int} {v : Value} (h : mixIs k v = true) : (∃ x t, k = .inl x ∧ v = .str x t) ∨ ∃ i t, k = .inr i ∧ v = .int i t := by
  cases k with
  | inl x => obtain ⟨t, e⟩ := Value.isStrOf_shape h; exact .inl ⟨x, t, rfl, e⟩
  | inr i => obtain ⟨t, e⟩ := Value.isInt_shape h; exact .inr ⟨i, t, rfl, e⟩
theorem eqBool_str_int {prog : Program} {w : World} {A : Around} {E : Value → Shared → Prop} {s : Shared} {a : Str} {t : Tok} {b : Int} {u : Tok} {Q : Bool → Shared → Prop} (h : Q false s) : wpAny (model prog w) A (eqBool (.str a t) (.int b u)) Q E s := by
  unfold eqBool
  try with_reducible refine wpAny_holding ?_
  show wpAny _ _ (if (Value.str a t == Value.int b u) = true then _ else _) Q E s
  rw [if_neg (show ¬ ((Value.str a t == Value.int b u) = true) from Bool.false_ne_true)]
  exact wpAny_bind (EqMixed.eq_str_int (Q := fun v s' => wpAny (model prog w) A (truthOfDropped v) Q E s') (wpAny_truthy_bool h))
theorem eqBool_int_str {prog : Program} {w : World} {A : Around} {E : Value → Shared → Prop} {s : Shared} {a : Str} {t : Tok} {b : Int} {u : Tok} {Q : Bool → Shared → Prop} (h : Q false s) : wpAny (model prog w) A (eqBool (.int b u) (.str a t)) Q E s := by
  unfold eqBool
  try with_reducible refine wpAny_holding ?_
  show wpAny _ _ (if (Value.int b u == Value.str a t) = true then _ else _) Q E s
  rw [if_neg (show ¬ ((Value.int b u == Value.str a t) = true) from Bool.false_ne_true)]
  exact wpAny_bind (EqMixed.eq_int_str (Q := fun v s' => wpAny (model prog w) A (truthOfDropped v) Q E s') (wpAny_truthy_bool h))
def mixKind (prog : Program) (w : World) : PySem.KeyKind prog w (Str ⊕ Int) where
  is := mixIs
  hash := mixHash w
  inj := fun v a b ha hb => by
    rcases mix_shape ha with ⟨x, t, rfl, rfl⟩ | ⟨i, t, rfl, rfl⟩ <;> rcases mix_shape hb with ⟨y, u, rfl, e⟩ | ⟨j, u, rfl, e⟩ <;> cases e <;> rfl
  byValue := fun k v h => by rcases mix_shape h with ⟨x, t, rfl, rfl⟩ | ⟨i, t, rfl, rfl⟩ <;> rfl
  pyHash := fun {A E s k v Q} h q => by
    rcases mix_shape h with ⟨x, t, rfl, rfl⟩ | ⟨i, t, rfl, rfl⟩
    · exact wpAny_pyHash_str q
    · exact wpAny_pyHash_int q
  eqBool := fun {A E s a b u v Q} ha hb q => by
    rcases mix_shape ha with ⟨x, t, rfl, rfl⟩ | ⟨i, t, rfl, rfl⟩ <;> rcases mix_shape hb with ⟨y, u, rfl, rfl⟩ | ⟨j, u, rfl, rfl⟩
    · exact wpAny_eqBool_str (by simpa using q)
    · exact eqBool_str_int (by simpa using q)
    · exact eqBool_int_str (by simpa using q)
    · have e : (i == j) = decide ((Sum.inr i : Str ⊕ Int) = .inr j) := by by_cases h : i = j <;> simp [h]
      exact wpAny_eqBool_int (by rw [e]; exact q)
  «strs» := fun k x t v h => by
    rcases mix_shape h with ⟨y, u, rfl, e⟩ | ⟨j, u, rfl, e⟩
    · cases e
      cases v <;> rfl
    · cases e

/-- a dict known by its entries -/
def EntsAt (h : Heap) (d : Addr) (es : Array DictEntry) (ep : Nat) : Prop := ∃ o, h.get? d = some o ∧ o.cls = .type "dict" ∧ o.data = .dict es ep
theorem EntsAt.typeIs {s : Shared} {d : Addr} {es : Array DictEntry} {ep : Nat} (x : EntsAt s.heap d es ep) : s.TypeIs (.ref d) "dict" := let ⟨o, ho, hc, _⟩ := x; ⟨o, ho, hc⟩
theorem EntsAt.get {h h' : Heap} {d : Addr} {es : Array DictEntry} {ep : Nat} (x : EntsAt h d es ep) (k : ∀ o, h.get? d = some o → h'.get? d = some o) : EntsAt h' d es ep := let ⟨o, ho, r⟩ := x; ⟨o, k o ho, r⟩

section
variable {prog : Program} {w : World} {A : Around} {E : Value → Shared → Prop} {s : Shared} {d : Addr} {es : Array DictEntry} {ep : Nat}

theorem meets_view {B : Builtin} {vt : String} (hd : (d == sysModules) = false)
    (hB : B ⟨[.ref d], []⟩ = (Builtin.Dict.noArgs "items" ⟨[.ref d], []⟩ >>= fun a => Builtin.Dict.showsAll a >>= fun _ => newObj (.type vt) (.fields #[.ref a]) >>= fun v => PySem.ret v) ∨
      B ⟨[.ref d], []⟩ = (Builtin.Dict.noArgs "values" ⟨[.ref d], []⟩ >>= fun a => Builtin.Dict.showsAll a >>= fun _ => newObj (.type vt) (.fields #[.ref a]) >>= fun v => PySem.ret v)) :
    MeetsIn prog w (B ⟨[.ref d], []⟩) (fun _ R s => (∃ es ep, EntsAt s.heap d es ep) ∧ R (.ok (.ret (.ref s.heap.objs.size))) { s with heap := s.heap.push { cls := .type vt, data := .fields #[.ref d] } }) :=
  .of_wp fun A R s ⟨⟨es, ep, hm⟩, h⟩ => by
    rcases hB with e | e <;>
    · rw [e]
      refine wpAny_bind ?_
      unfold Builtin.Dict.noArgs
      refine wpAny_bind (wpAny_notOrdered_dict hm.typeIs ?_)
      show wpAny _ _ (pure d) _ _ s
      refine wpAny_pure (wpAny_bind ?_)
      unfold Builtin.Dict.showsAll
      rw [if_neg (by rw [hd]; exact Bool.false_ne_true)]
      exact wpAny_pure (wpAny_bind (wpAny_newObj_type (wpAny_pure ⟨_, rfl, h⟩)))

theorem call_itemsE {Q : Value → Shared → Prop} (lo : (d == sysModules) = false) (hm : EntsAt s.heap d es ep) (h : Q (.ref s.heap.objs.size) { s with heap := s.heap.push { cls := .type "dict_items", data := .fields #[.ref d] } }) :
    wpAny (model prog w) A (call (.builtin "dict.items") [.ref d]) Q E s :=
  call_meetsIn PySem.F.slot_dict_items hm.typeIs PySem.F.entry_dict_items (PySem.F.args_dict_items_1 _) (meets_view lo (.inl rfl)) ⟨⟨es, ep, hm⟩, h⟩
theorem call_valuesE {Q : Value → Shared → Prop} (lo : (d == sysModules) = false) (hm : EntsAt s.heap d es ep) (h : Q (.ref s.heap.objs.size) { s with heap := s.heap.push { cls := .type "dict_values", data := .fields #[.ref d] } }) :
    wpAny (model prog w) A (call (.builtin "dict.values") [.ref d]) Q E s :=
  call_meetsIn PySem.F.slot_dict_values hm.typeIs PySem.F.entry_dict_values (PySem.F.args_dict_values_1 _) (meets_view lo (.inr rfl)) ⟨⟨es, ep, hm⟩, h⟩

theorem newIter_tree {ty : String} {four : Bool} (hown : Builtin.Dict_items.ownsTuple ty = four) {Q : Value → Shared → Prop} (hm : EntsAt s.heap d es ep)
    (hQ : Q (.ref s.heap.objs.size) { s with heap := s.heap.push { cls := .type ty, data := .fields (if four then #[.none, .bool false, .ref d, .int 0 0, .int es.size 0, .int ep 0, .none, .none] else #[.ref d, .int 0 0, .int es.size 0, .int ep 0]) } }) :
    wpAny (model prog w) A (Builtin.Dict_items.newIterator ty d) Q E s := by
  obtain ⟨o, ho, _, hd⟩ := hm
  unfold Builtin.Dict_items.newIterator
  refine wpAny_bind (wpAny_dictEntries ho hd (wpAny_bind (wpAny_dictEpoch ho hd ?_)))
  subst hown
  unfold newFields
  refine wpAny_newObj_type ?_ (by
    simp only [sizeOk]
    split <;> (simp only [Builtin.Dict_items.ownedTupleFields, List.size_toArray, List.length_append, List.length_cons, List.length_nil, sizeLine_eq]; omega))
  split
  · rename_i h; rw [if_pos h] at hQ; exact hQ
  · rename_i h; rw [if_neg h] at hQ; exact hQ

theorem iter_itemsE {v : Addr} {Q : Value → Shared → Prop} (hv : s.heap.IsItemsView v d) (hm : EntsAt s.heap d es ep)
    (hQ : ∀ h', h'.get? s.heap.objs.size = some { cls := .type "dict_itemiterator", dict := none, data := .fields #[.none, .bool false, .ref d, .int 0 0, .int es.size 0, .int ep 0, .none, .none], slots := #[] } → (∀ b o, s.heap.get? b = some o → h'.get? b = some o) → Q (.ref s.heap.objs.size) { s with heap := h' }) :
    wpAny (model prog w) A (pyIter (.ref v)) Q E s := by
  obtain ⟨ov, hov, hcv, hdv⟩ := id hv
  refine wpAny_pyIter_slot hv.typeIs F.slot_dict_items_iter (wpAny_call_entry F.slot_dict_items_iter hv.typeIs F.entry_dict_items_iter ?_ (F.args_dict_items_iter_1 _))
  unfold Builtin.«dict_items.__iter__»
  refine wpAny_bind (wpAny_pure (wpAny_bind ?_))
  unfold Builtin.Dict_items.dictOf
  refine wpAny_bind (wpAny_field hov hdv (x := .ref d) rfl (wpAny_pure (wpAny_bind (newIter_tree (four := true) (by decide) hm (wpAny_pure ?_)))))
  exact ⟨_, rfl, "dict_itemiterator", _, ⟨_, Heap.get?_push_size _ rfl, rfl⟩, F.slot_dict_itemiterator_next.lookup, hQ _ (Heap.get?_push_size _ rfl) fun b o e => Heap.get?_push_of_some _ e⟩
theorem iter_valuesE {v : Addr} {Q : Value → Shared → Prop} (hv : s.heap.IsValuesView v d) (hm : EntsAt s.heap d es ep)
    (hQ : ∀ h', h'.IsValIter s.heap.objs.size d 0 es.size ep → (∀ b o, s.heap.get? b = some o → h'.get? b = some o) → Q (.ref s.heap.objs.size) { s with heap := h' }) :
    wpAny (model prog w) A (pyIter (.ref v)) Q E s := by
  obtain ⟨ov, hov, hcv, hdv⟩ := id hv
  refine wpAny_pyIter_slot hv.typeIs F.slot_dict_values_iter (wpAny_call_entry F.slot_dict_values_iter hv.typeIs F.entry_dict_values_iter ?_ (F.args_dict_values_iter_1 _))
  unfold Builtin.«dict_values.__iter__»
  refine wpAny_bind (wpAny_pure (wpAny_bind ?_))
  unfold Builtin.Dict_items.dictOf
  refine wpAny_bind (wpAny_field hov hdv (x := .ref d) rfl (wpAny_pure (wpAny_bind (newIter_tree (four := false) (by decide) hm (wpAny_pure ?_)))))
  exact ⟨_, rfl, "dict_valueiterator", _, ⟨_, Heap.get?_push_size _ rfl, rfl⟩, F.slot_dict_valueiterator_next.lookup, hQ _ ⟨_, Heap.get?_push_size _ rfl, rfl, rfl⟩ fun b o e => Heap.get?_push_of_some _ e⟩

-- a draw from a dict's values
theorem next_valuesE {it : Addr} {i : Nat} {e : DictEntry} {Q : Option Value → Shared → Prop} (hit : s.heap.IsValIter it d i es.size ep) (hm : EntsAt s.heap d es ep) (hx : es[i]? = some e)
    (hQ : ∀ h', h'.IsValIter it d (i + 1) es.size ep → Heap.SameBut it s.heap h' → Q (some e.val) { s with heap := h' }) : wpAny (model prog w) A (pyNext (.ref it)) Q E s := by
  obtain ⟨o, ho, hc, hd⟩ := id hit
  obtain ⟨od, hod, hcd, hdd⟩ := id hm
  unfold pyNext
  refine wpAny_bind (wpAny_attempt (wpAny_callSpecial?_slot (name := Str.ofString "__next__") hit.typeIs F.slot_dict_valueiterator_next
    (wpAny_call_entry F.slot_dict_valueiterator_next hit.typeIs F.entry_dict_valueiterator_next ?_ (F.args_dict_valueiterator_next_1 _))))
  refine wpAny_bind (wpAny_pure (wpAny_bind (wpAny_bind ?_)))
  refine wpAny_bind (wpAny_typeNameOfWhole_valiter hit.typeIs (wpAny_pure (wpAny_bind (wpAny_fieldsOf ho hd ?_))))
  simp only [show Builtin.Dict_items.ownsTuple "dict_valueiterator" = false by decide, Bool.false_eq_true, if_false]
  show wpAny _ _ (if (Value.ref d == Value.none) = true then _ else _) _ _ s
  rw [if_neg (show ¬ ((Value.ref d == Value.none) = true) from Bool.false_ne_true)]
  refine wpAny_bind (wpAny_pure (wpAny_bind (wpAny_dictEntries hod hdd ?_)))
  rw [if_neg (by simp)]
  refine wpAny_bind (wpAny_pure (wpAny_bind (wpAny_dictEpoch hod hdd ?_)))
  rw [if_neg (by simp)]
  refine wpAny_pure ?_
  simp only [show ¬ ((i : Int) < 0) from by omega, if_false, Int.toNat_natCast, hx]
  refine wpAny_bind (wpAny_bind (wpAny_typeNameOfWhole_valiter hit.typeIs (wpAny_pure (wpAny_bind (wpAny_isOneOf_valiter hit.typeIs ?_)))))
  show wpAny _ _ (setField (.ref it) 1 (rawInt ((i : Int) + 1)) >>= _) _ _ s
  refine wpAny_bind (wpAny_setField ho hd (by simp) ?_)
  have hit' : (s.heap.update it (Obj.mapFields (·.setIfInBounds 1 (rawInt ((i : Int) + 1))))).IsValIter it d (i + 1) es.size ep :=
    ⟨_, Heap.get?_update_self _ ho (Obj.isFreed_of_fields (Obj.data_mapFields hd _)), (Obj.cls_mapFields ..).trans hc, by rw [Obj.data_mapFields hd]; simp [rawInt]⟩
  generalize hh : s.heap.update it (Obj.mapFields (·.setIfInBounds 1 (rawInt ((i : Int) + 1)))) = h' at hit' ⊢
  have T : Shared.TypeIs { s with heap := h' } (.ref it) "dict_valueiterator" := hit'.typeIs
  refine wpAny_bind (wpAny_holding (wpAny_bind (wpAny_isOneOf_valiter T (wpAny_bind (wpAny_isOneOf_valiter T ?_)))))
  exact wpAny_pure (wpAny_pure ⟨_, rfl, wpAny_pure (hQ _ hit' (hh ▸ Heap.SameBut.update ..))⟩)

/-- the end of a view's iterator: its dict is let go, StopIteration is raised and taken -/
theorem stop_tail {R : Option Value → Shared → Prop} {k : Sem Fin} (hh : A.handled = none) {it : Addr} {n : Nat} {o : Obj} {vs : Array Value} (ho : s.heap.get? it = some o) (hd : o.data = .fields vs) (hn : n < vs.size) {E' : Value → Shared → Prop}
    (hE : ∀ h' e, Heap.ExtBut it s.heap h' → Shared.TypeIs { s with heap := h' } (.ref e) "StopIteration" → E' (.ref e) { s with heap := h' }) {P : Fin → Shared → Prop} :
    wpAny (model prog w) A (setField (.ref it) n .none >>= fun _ => newExc (.type "StopIteration") [] >>= fun e => (raiseNew e : Sem Fin)) P E' s := by
  refine wpAny_bind (wpAny_setField ho hd hn ?_)
  refine wpAny_bind ?_
  simp only [newExc, newTuple]
  refine wpAny_bind (wpAny_newObj_type ?_ (by size_fits))
  refine wpAny_bind (m := firstArgMember _ _) (wpAny_of_eq (a := Value.none) (by first | rfl | (simp only [firstArgMember]; rfl)) ?_)
  refine wpAny_newObj_type ?_ (by size_fits)
  simp only [raiseNew]
  refine wpAny_bind (wpAny_handled ?_)
  rw [hh]
  exact wpAny_bind (wpAny_pure (wpAny_throw (hE _ _ (((Heap.SameBut.update ..).extBut.push _).push _) ⟨_, Heap.get?_push_size _ rfl, rfl⟩)))

theorem next_values_endE {it : Addr} {i : Nat} {Q : Option Value → Shared → Prop} (hh : A.handled = none) (hit : s.heap.IsValIter it d i es.size ep) (hm : EntsAt s.heap d es ep) (hx : es.size ≤ i)
    (hQ : ∀ h', Heap.ExtBut it s.heap h' → Q none { s with heap := h' }) : wpAny (model prog w) A (pyNext (.ref it)) Q E s := by
  obtain ⟨o, ho, hc, hd⟩ := id hit
  obtain ⟨od, hod, hcd, hdd⟩ := id hm
  unfold pyNext
  refine wpAny_bind (wpAny_attempt (wpAny_callSpecial?_slot (name := Str.ofString "__next__") hit.typeIs F.slot_dict_valueiterator_next
    (wpAny_call_entry F.slot_dict_valueiterator_next hit.typeIs F.entry_dict_valueiterator_next ?_ (F.args_dict_valueiterator_next_1 _))))
  refine wpAny_bind (wpAny_pure (wpAny_bind (wpAny_bind ?_)))
  refine wpAny_bind (wpAny_typeNameOfWhole_valiter hit.typeIs (wpAny_pure (wpAny_bind (wpAny_fieldsOf ho hd ?_))))
  simp only [show Builtin.Dict_items.ownsTuple "dict_valueiterator" = false by decide, Bool.false_eq_true, if_false]
  show wpAny _ _ (if (Value.ref d == Value.none) = true then _ else _) _ _ s
  rw [if_neg (show ¬ ((Value.ref d == Value.none) = true) from Bool.false_ne_true)]
  refine wpAny_bind (wpAny_pure (wpAny_bind (wpAny_dictEntries hod hdd ?_)))
  rw [if_neg (by simp)]
  refine wpAny_bind (wpAny_pure (wpAny_bind (wpAny_dictEpoch hod hdd ?_)))
  rw [if_neg (by simp)]
  refine wpAny_pure ?_
  simp only [show ¬ ((i : Int) < 0) from by omega, if_false, Int.toNat_natCast, Array.getElem?_eq_none hx]
  refine wpAny_bind (wpAny_bind (wpAny_typeNameOfWhole_valiter hit.typeIs (wpAny_pure ?_)))
  refine stop_tail (R := Q) (k := pure (.done .next)) (A := A.in1) hh ho hd (by simp [show Builtin.Dict_items.ownsTuple "dict_valueiterator" = false by decide]) fun h' e hx hT => ?_
  refine wpAny_bind (wpAny_isInstance (T := "StopIteration") (b := true) hT isSubtype_stop ?_)
  exact wpAny_pure (hQ h' hx)

theorem next_items_endE {it : Addr} {i : Nat} {ok ov : Value} {Q : Option Value → Shared → Prop} (hh : A.handled = none) (hit : IsItemIter s.heap it d i es.size ep ok ov) (hm : EntsAt s.heap d es ep) (hx : es.size ≤ i)
    (hQ : ∀ h', Heap.ExtBut it s.heap h' → Q none { s with heap := h' }) : wpAny (model prog w) A (pyNext (.ref it)) Q E s := by
  obtain ⟨od, hod, hcd, hdd⟩ := id hm
  have hT : s.TypeIs (.ref it) "dict_itemiterator" := ⟨_, hit, rfl⟩
  unfold pyNext
  refine wpAny_bind (wpAny_attempt (wpAny_callSpecial?_slot (name := Str.ofString "__next__") hT F.slot_dict_itemiterator_next
    (wpAny_call_entry F.slot_dict_itemiterator_next hT F.entry_dict_itemiterator_next ?_ (F.args_dict_itemiterator_next_1 _))))
  refine wpAny_bind (wpAny_pure (wpAny_bind (wpAny_bind ?_)))
  refine wpAny_bind (wpAny_typeNameOfWhole_itemiter hT (wpAny_pure (wpAny_bind (wpAny_fieldsOf hit rfl ?_))))
  simp only [show Builtin.Dict_items.ownsTuple "dict_itemiterator" = true by decide, if_true]
  show wpAny _ _ (if (Value.ref d == Value.none) = true then _ else _) _ _ s
  rw [if_neg (show ¬ ((Value.ref d == Value.none) = true) from Bool.false_ne_true)]
  refine wpAny_bind (wpAny_pure (wpAny_bind (wpAny_dictEntries hod hdd ?_)))
  rw [if_neg (by simp)]
  refine wpAny_bind (wpAny_pure (wpAny_bind (wpAny_dictEpoch hod hdd ?_)))
  rw [if_neg (by simp)]
  refine wpAny_pure ?_
  simp only [show ¬ ((i : Int) < 0) from by omega, if_false, Int.toNat_natCast, Array.getElem?_eq_none hx]
  refine wpAny_bind (wpAny_bind (wpAny_typeNameOfWhole_itemiter hT (wpAny_pure ?_)))
  refine stop_tail (R := Q) (k := pure (.done .next)) (A := A.in1) hh hit rfl (by simp [show Builtin.Dict_items.ownsTuple "dict_itemiterator" = true by decide]) fun h' e hx hT => ?_
  refine wpAny_bind (wpAny_isInstance (T := "StopIteration") (b := true) hT isSubtype_stop ?_)
  exact wpAny_pure (hQ h' hx)

/-- a pair handed out by an iterator whose own tuple is free -/
theorem pair_tree {it : Addr} {i n : Nat} {ok ov key val : Value} {Q : Value → Shared → Prop} (hit : IsItemIter s.heap it d i n ep ok ov)
    (hQ : ∀ h', IsItemIterOut h' it d i n ep key val s.heap.objs.size → h'.get? s.heap.objs.size = some (tupObj #[key, val] 0) → (∀ b o, b ≠ it → s.heap.get? b = some o → h'.get? b = some o) → Q (.ref s.heap.objs.size) { s with heap := h' }) :
    wpAny (model prog w) A (Builtin.Dict_items.pairFromOwner (.ref it) 6 key val) Q E s := by
  have hil : it < s.heap.objs.size := Heap.lt_size hit
  unfold Builtin.Dict_items.pairFromOwner
  refine wpAny_bind (wpAny_newTuple ?_ (by rw [sizeLine_eq]; simp))
  have e0 : (s.heap.push { cls := .type "tuple", data := .seq ([key, val] : List Value).toArray }).get? s.heap.objs.size = some (tupObj #[key, val] 0) := Heap.get?_push_size _ rfl
  have k0 : ∀ b o, s.heap.get? b = some o → (s.heap.push { cls := .type "tuple", data := .seq ([key, val] : List Value).toArray }).get? b = some o := fun b o e => Heap.get?_push_of_some _ e
  generalize hh0 : s.heap.push { cls := .type "tuple", data := .seq ([key, val] : List Value).toArray } = h0 at e0 k0 ⊢
  have hit0 : IsItemIter h0 it d i n ep ok ov := k0 _ _ hit
  show wpAny _ _ (Builtin.Dict_items.ownedTupleIsFree (.ref it) >>= _) _ _ { s with heap := h0 }
  refine wpAny_bind ?_
  unfold Builtin.Dict_items.ownedTupleIsFree
  refine wpAny_bind (wpAny_field hit0 rfl (x := .none) rfl (wpAny_pure ?_))
  simp only [if_true]
  refine wpAny_bind (wpAny_field hit0 rfl (x := ok) rfl (wpAny_bind (wpAny_field hit0 rfl (x := ov) rfl ?_)))
  refine wpAny_bind (wpAny_setField_rec hit0 (by simp) fun h1 he1 hs1 => wpAny_bind (wpAny_setField_rec he1 (by simp) fun h2 he2 hs2 => wpAny_bind (wpAny_setField_rec he2 (by simp) fun h3 he3 hs3 =>
    wpAny_bind (wpAny_setField_rec he3 (by simp) fun h4 he4 hs4 => wpAny_bind (wpAny_letGo (wpAny_pure ?_))))))
  have up : ∀ b o, b ≠ it → h0.get? b = some o → h4.get? b = some o := fun b o nb e => (hs4.2 b nb).trans ((hs3.2 b nb).trans ((hs2.2 b nb).trans ((hs1.2 b nb).trans e)))
  exact hQ h4 he4 (up _ _ (Nat.ne_of_gt hil) e0) fun b o nb e => up b o nb (k0 b o e)

theorem next_itemsE {it : Addr} {i : Nat} {ok ov : Value} {e : DictEntry} {Q : Option Value → Shared → Prop} (hit : IsItemIter s.heap it d i es.size ep ok ov) (hm : EntsAt s.heap d es ep) (hx : es[i]? = some e)
    (hQ : ∀ h', IsItemIterOut h' it d (i + 1) es.size ep e.key e.val s.heap.objs.size → h'.get? s.heap.objs.size = some (tupObj #[e.key, e.val] 0) → (∀ b o, b ≠ it → s.heap.get? b = some o → h'.get? b = some o) →
      Q (some (.ref s.heap.objs.size)) { s with heap := h' }) : wpAny (model prog w) A (pyNext (.ref it)) Q E s := by
  obtain ⟨od, hod, hcd, hdd⟩ := id hm
  have hT : s.TypeIs (.ref it) "dict_itemiterator" := ⟨_, hit, rfl⟩
  unfold pyNext
  refine wpAny_bind (wpAny_attempt (wpAny_callSpecial?_slot (name := Str.ofString "__next__") hT F.slot_dict_itemiterator_next
    (wpAny_call_entry F.slot_dict_itemiterator_next hT F.entry_dict_itemiterator_next ?_ (F.args_dict_itemiterator_next_1 _))))
  refine wpAny_bind (wpAny_pure (wpAny_bind (wpAny_bind ?_)))
  refine wpAny_bind (wpAny_typeNameOfWhole_itemiter hT (wpAny_pure (wpAny_bind (wpAny_fieldsOf hit rfl ?_))))
  simp only [show Builtin.Dict_items.ownsTuple "dict_itemiterator" = true by decide, if_true]
  show wpAny _ _ (if (Value.ref d == Value.none) = true then _ else _) _ _ s
  rw [if_neg (show ¬ ((Value.ref d == Value.none) = true) from Bool.false_ne_true)]
  refine wpAny_bind (wpAny_pure (wpAny_bind (wpAny_dictEntries hod hdd ?_)))
  rw [if_neg (by simp)]
  refine wpAny_bind (wpAny_pure (wpAny_bind (wpAny_dictEpoch hod hdd ?_)))
  rw [if_neg (by simp)]
  refine wpAny_pure ?_
  simp only [show ¬ ((i : Int) < 0) from by omega, if_false, Int.toNat_natCast, hx]
  refine wpAny_bind (wpAny_bind (wpAny_typeNameOfWhole_itemiter hT (wpAny_pure (wpAny_bind (wpAny_isOneOf_itemiter hT ?_)))))
  show wpAny _ _ (setField (.ref it) 3 (rawInt ((i : Int) + 1)) >>= _) _ _ s
  refine wpAny_bind (wpAny_setField_rec hit (by simp) fun h₁ he₁ hs₁ => ?_)
  have he₁' : IsItemIter h₁ it d (i + 1) es.size ep ok ov := by
    have e : ((i + 1 : Nat) : Int) = (i : Int) + 1 := by omega
    unfold IsItemIter; rw [e]; simpa [rawInt] using he₁
  have hT₁ : Shared.TypeIs { s with heap := h₁ } (.ref it) "dict_itemiterator" := ⟨_, he₁, rfl⟩
  have hz : h₁.objs.size = s.heap.objs.size := hs₁.1
  refine wpAny_bind (wpAny_holding (wpAny_bind (wpAny_isOneOf_itemiter hT₁ (wpAny_bind (wpAny_isOneOf_itemiter hT₁ ?_)))))
  show wpAny _ _ (Builtin.Dict_items.pairFromOwner (.ref it) 6 e.key e.val) _ _ { s with heap := h₁ }
  refine pair_tree (s := { s with heap := h₁ }) he₁' fun h' ho ht hk => ?_
  rw [show Shared.heap { s with heap := h₁ } = h₁ from rfl, hz] at ho ht ⊢
  exact wpAny_pure ⟨_, rfl, wpAny_pure (hQ h' ho ht fun b o nb e => hk b o nb (hs₁.extBut b o nb e))⟩
end
end Mine

end
section
set_option maxRecDepth 100000
open PySem PySem.W PyProof.Rows PySem.Calls
namespace Mine

abbrev Ent3 := List (Str ⊕ Int) × Addr × Value
def rowKey (a b : Str) (k : Int) : List (Str ⊕ Int) := [.inl a, .inr k, .inl b]
theorem rowKey_inj {a b : Str} {k j : Int} : rowKey a b k = rowKey a b j ↔ k = j := by simp [rowKey]

theorem isKey_le {prog : Program} {w : World} {D : Addr → Prop} {h h' : Heap} {ks : List (Str ⊕ Int)} {p : Addr} (x : IsTupleKey (mixKind prog w) h ks p) (d : ¬ D p) (k : Le D h h') : IsTupleKey (mixKind prog w) h' ks p := by
  obtain ⟨o, items, n, ho, hc, hd, hi⟩ := x
  exact ⟨o, items, n, k p o d (by unfold Firm; rw [hd]; trivial) ho, hc, hd, hi⟩

/-- a tuple (a, k, b) -/
def tKey (prog : Program) (w : World) (a b : Str) : Ty Int where
  is D h v k := ∃ p, v = .ref p ∧ ¬ D p ∧ IsTupleKey (mixKind prog w) h (rowKey a b k) p
  mono := fun k ⟨p, e, d, x⟩ => ⟨p, e, d, isKey_le x d k⟩
  wide := fun k ⟨p, e, d, x⟩ => ⟨p, e, fun q => d (k _ _ x.choose_spec.choose_spec.choose_spec.1 q), x⟩

def RowAt (prog : Program) (w : World) (a b : Str) (D : Addr → Prop) (h : Heap) (d : Addr) (ks : List Int) : Prop :=
  ∃ es : List Ent3, h.DictOfH (tupleKind (mixKind prog w)) d es ∧ (∀ e ∈ es, ¬ D e.2.1) ∧ Paired (fun (e : Ent3) k => e.1 = rowKey a b k ∧ ∃ t, e.2.2 = .int 1 t) es ks
theorem RowAt.up {prog : Program} {w : World} {a b : Str} {D : Addr → Prop} {h h' : Heap} {d : Addr} {ks : List Int} (x : RowAt prog w a b D h d ks) (hd : ∀ o, h.get? d = some o → Firm o → h'.get? d = some o) (k : Le D h h') : RowAt prog w a b D h' d ks := by
  obtain ⟨es, ⟨o, e, ep, ho, hx, hdt, he, his, hn⟩, hD, hp⟩ := x
  exact ⟨es, ⟨o, e, ep, hd o ho (by unfold Firm; rw [hdt]; trivial), hx, hdt, he, fun y m => isKey_le (his y m) (hD y m) k, hn⟩, hD, hp⟩
theorem RowAt.thin {prog : Program} {w : World} {a b : Str} {D D' : Addr → Prop} {h : Heap} {d : Addr} {ks : List Int} (x : RowAt prog w a b D h d ks) (k : ∀ c o, h.get? c = some o → D' c → D c) : RowAt prog w a b D' h d ks := by
  obtain ⟨es, hm, hD, hp⟩ := x
  refine ⟨es, hm, fun e m q => hD e m ?_, hp⟩
  obtain ⟨o, e', ep, ho, hx, hdt, he, his, hn⟩ := hm
  obtain ⟨ok, _, _, hk, _⟩ := his e m
  exact k _ _ hk q
theorem RowAt.here {prog : Program} {w : World} {a b : Str} {D : Addr → Prop} {h : Heap} {d : Addr} {ks : List Int} (x : RowAt prog w a b D h d ks) : ∃ o, h.get? d = some o ∧ Firm o := by
  obtain ⟨es, ⟨o, e, ep, ho, hx, hdt, he, his, hn⟩, hD, hp⟩ := x
  exact ⟨o, ho, by unfold Firm; rw [hdt]; trivial⟩

/-- a dict of such keys, in order, each at 1 -/
def tRow (prog : Program) (w : World) (a b : Str) : Ty (List Int) where
  is D h v ks := ∃ d, v = .ref d ∧ ¬ D d ∧ 1 < d ∧ RowAt prog w a b D h d ks
  mono := fun k ⟨d, e, n, s, x⟩ => ⟨d, e, n, s, x.up (fun o ho f => k d o n f ho) k⟩
  wide := fun k ⟨d, e, n, s, x⟩ => ⟨d, e, fun q => let ⟨o, ho, _⟩ := x.here; n (k _ _ ho q), s, x.thin k⟩

theorem row_nodup {prog : Program} {w : World} {a b : Str} {D : Addr → Prop} {h : Heap} {d : Addr} {ks : List Int} (x : RowAt prog w a b D h d ks) : ks.Nodup := by
  obtain ⟨es, ⟨o, e, ep, ho, hx, hdt, he, his, hn⟩, hD, hp⟩ := x
  clear his he hD
  induction hp with
  | nil => exact List.nodup_nil
  | @cons e k es ks q r ih =>
    rw [List.map_cons, List.nodup_cons] at hn
    rw [List.nodup_cons]
    refine ⟨fun m => hn.1 ?_, ih hn.2⟩
    have key : ∀ {es : List Ent3} {ks : List Int}, Paired (fun (e : Ent3) k => e.1 = rowKey a b k ∧ ∃ t, e.2.2 = .int 1 t) es ks → k ∈ ks → rowKey a b k ∈ es.map (·.1) := by
      intro es ks p
      induction p with
      | nil => intro m; cases m
      | cons q _ ih =>
        intro m
        cases m with
        | head => rw [List.map_cons, q.1]; exact .head _
        | tail _ m => exact .tail _ (ih m)
    rw [q.1]; exact key r m

theorem atKey_row {a b : Str} {k : Int} : ∀ {es : List Ent3} {ks : List Int}, Paired (fun (e : Ent3) k => e.1 = rowKey a b k ∧ ∃ t, e.2.2 = .int 1 t) es ks → k ∉ ks → atKey es (rowKey a b k) = none := by
  intro es ks p
  induction p with
  | nil => intro _; rfl
  | @cons e j es ks q _ ih =>
    intro m
    have hne : ¬ e.1 = rowKey a b k := by rw [q.1]; exact fun z => m (rowKey_inj.mp z ▸ .head _)
    have := ih fun z => m (.tail _ z)
    unfold atKey at this ⊢
    rw [List.find?_cons, decide_eq_false hne]
    exact this

section
variable {prog : Program} {w : World} {A : Around} {D : Addr → Prop} {s s₁ s₀ : Shared} {g : Heap} {env : Env} {ρ : Rho} {mg mb : Str → Option Value} {sc : Scope} {px pos : Pos} {a b : Str}

theorem size_big (C : Cx g mg mb) (X : Ex g s₀ D env s ρ) : 1 < s.heap.objs.size := by
  obtain ⟨mc, hns, _⟩ := C.W.lim
  obtain ⟨o, _, _, ho, _⟩ := hns
  exact Nat.lt_trans (by decide) (Heap.lt_size (X.subs _ _ ho))

/-- {} -/
theorem has_row0 {pos : Pos} (a b : Str) (C : Cx g mg mb) (X : Ex g s₀ D env s ρ) : Has prog w A D s (eval (.Dict [] [] pos) env) (tRow prog w a b) [] := Hs.of fun s' Q k l q =>
  wpAny_Dict_empty (q _ _ (keeps_push _ _) ⟨_, rfl, live_fresh l, size_big C (X.up k), [], Heap.DictOfH.new _, (fun _ m => nomatch m), .nil⟩)

/-- (x, k, y) -/
theorem has_key {e1 e2 e3 : Expr} {n : Nat} {k : Int} (h1 : Has prog w A D s (eval e1 env) tStr a) (h2 : Has prog w A D s (eval e2 env) tInt k) (h3 : Has prog w A D s (eval e3 env) tStr b)
    (i1 : isStarred e1 = false := by rfl) (i2 : isStarred e2 = false := by rfl) (i3 : isStarred e3 = false := by rfl) : Has prog w A D s (eval (.Tuple [e1, e2, e3] n pos) env) (tKey prog w a b) k := fun s' k' l =>
  Tuple_ (wpAny_mono ((hsl_cons h1 (hsl_cons h2 (hsl_cons h3 hsl_nil (st1 i3)) (st1 i2)) (st1 i1) : HsL prog w A D s pos env _ _) s' k' l) (fun vs s₁ q => by
    obtain ⟨u, v, x, rfl, ⟨t1, rfl⟩, ⟨t2, rfl⟩, ⟨t3, rfl⟩⟩ := q.2.three
    refine wpAny_newTuple ⟨keeps_trans q.1 (keeps_push _ _), _, rfl, live_fresh (live_keeps l q.1), _, _, 0, Heap.get?_push_size _ rfl, rfl, rfl, ?_⟩ (by rw [sizeLine_eq]; simp)
    exact .cons (by simp [mixKind, mixIs, Value.isStrOf]) (.cons (by simp [mixKind, mixIs, Value.isInt]) (.cons (by simp [mixKind, mixIs, Value.isStrOf]) .nil))) fun _ _ e => e)

theorem rowStore {h h' : Heap} {d p : Addr} {ks : List Int} {k : Int} {es : List Ent3} {v : Value} (hn : k ∉ ks) (hp : Paired (fun (e : Ent3) k => e.1 = rowKey a b k ∧ ∃ t, e.2.2 = .int 1 t) es ks) (hD : ∀ e ∈ es, ¬ D e.2.1) (dp : ¬ D p) (hv : ∃ t, v = .int 1 t)
    (hm : h'.DictOfH (tupleKind (mixKind prog w)) d (storedH es (rowKey a b k) p v)) : RowAt prog w a b D h' d (ks ++ [k]) := by
  rw [storedH_new (atKey_row hp hn)] at hm
  refine ⟨_, hm, fun e m => ?_, paired_append hp (.cons ⟨rfl, hv⟩ .nil)⟩
  rcases List.mem_append.mp m with m | m
  · exact hD e m
  · simp only [List.mem_singleton] at m
    subst m; exact dp

/-- {(x, k, y): 1} -/
theorem has_row1 {ek ev : Expr} {pos : Pos} {k : Int} (C : Cx g mg mb) (X : Ex g s₀ D env s ρ) (hu : A.units ≤ 9000) (hk : Has prog w A D s (eval ek env) (tKey prog w a b) k) (hv : Has prog w A D s (eval ev env) tInt 1) :
    Has prog w A D s (eval (.Dict [some ek] [ev] pos) env) (tRow prog w a b) [k] := fun s' k' l => by
  refine wpAny_Dict_any (keys := [some ek]) (values := [ev]) rfl rfl (by simp) (by simp) ?_
  have kp : Keeps s' { s' with heap := s'.heap.push { cls := .type "dict", data := .dict #[] } } := keeps_push _ _
  have new : ({ s' with heap := s'.heap.push { cls := .type "dict", data := .dict #[] } } : Shared).heap.DictOfH (tupleKind (mixKind prog w)) s'.heap.objs.size ([] : List Ent3) := Heap.DictOfH.new _
  have big := size_big C (X.up k')
  have none' := none_size s'.heap
  generalize hs1 : ({ s' with heap := s'.heap.push { cls := .type "dict", data := .dict #[] } } : Shared) = s₁ at kp new ⊢
  refine evalPairs_cons (wpAny_mono (hk s₁ (keeps_trans k' kp) (live_keeps l kp)) (fun u s₂ hu2 => ?_) fun _ _ e => e)
  obtain ⟨k2, p, rfl, dp, hkey⟩ := hu2
  refine wpAny_bind (wpAny_mono (hv s₂ (keeps_trans (keeps_trans k' kp) k2) (live_keeps l (keeps_trans kp k2))) (fun v s₃ hv3 => wpAny_bind (wpAny_standAt (wpAny_pure (evalPairs_nil ?_)))) fun _ _ e => e)
  obtain ⟨k3, t, rfl⟩ := hv3
  unfold storeAll
  have k13 := keeps_trans k2 k3
  have m3 : s₃.heap.DictOfH (tupleKind (mixKind prog w)) s'.heap.objs.size ([] : List Ent3) := by
    obtain ⟨o, e, ep, ho, r⟩ := new
    obtain ⟨r1, r2, r3, r4, r5⟩ := r
    exact ⟨o, e, ep, keeps_get k13 ho, r1, r2, r3, (fun _ m => nomatch m), r5⟩
  have key3 : IsTupleKey (mixKind prog w) s₃.heap (rowKey a b k) p := isKey_le hkey dp (keeps_le k3 D)
  simp only [List.forIn_cons, List.forIn_nil]
  refine wpAny_bind (wpAny_bind (wpAny_dictSet_heap (knd := tupleKind (mixKind prog w)) (show A.units < cLine by have := cLine_9900; omega) key3 m3 (fun h' hm' hs' => ?_) (by rw [sizeLine_eq]; simp)))
  refine wpAny_pure (wpAny_pure ?_)
  have hd : ¬ D s'.heap.objs.size := live_fresh l
  refine ⟨?_, _, rfl, hd, big, ?_⟩
  · obtain ⟨h3, t3, rfl, hk3⟩ := keeps_trans kp k13
    exact ⟨h', _, rfl, fun c o e => (hs'.2 c fun q => by rw [q, none'] at e; cases e).trans (hk3 c o e)⟩
  · exact rowStore (h := s₃.heap) (ks := []) (fun m => nomatch m) .nil (fun _ m => nomatch m) dp ⟨t, rfl⟩ hm'

/-- k in row -/
theorem cmp_inrow {d : Addr} {k : Int} {ks : List Int} {u : Value} (hu : A.units ≤ 9000) (hd : 1 < d) (h : (tKey prog w a b).is D s₁.heap u k) (hr : RowAt prog w a b D s₁.heap d ks) (hn : k ∉ ks) : Has prog w A D s₁ (compareOp .In u (.ref d)) tBool false := by
  obtain ⟨p, rfl, dp, hk⟩ := h
  refine Hs.of fun s' Q kp l q => ?_
  obtain ⟨es, hm, hD, hp⟩ := hr.up (fun o e _ => keeps_get kp e) (keeps_le kp D)
  refine wpAny_in_heap (knd := tupleKind (mixKind prog w)) (show A.units + 1 < cLine by have := cLine_9900; omega) (isKey_le hk dp (keeps_le kp D)) (by
    have : ¬ d = sysModules := fun e => by rw [e] at hd; exact absurd hd (by decide)
    simpa using this) hm ?_
  rw [atKey_row hp hn]
  exact q _ _ (keeps_toks _ _) rfl

/-- row[k] = 1, a new key -/
theorem set_row {d : Addr} {k : Int} {ks : List Int} {u v : Value} {Q : Unit → Shared → Prop} {E : Value → Shared → Prop} (hu : A.units ≤ 9000) (h : (tKey prog w a b).is D s.heap u k) (hv : tInt.is D s.heap v 1) (hr : RowAt prog w a b D s.heap d ks) (hn : k ∉ ks) (hl : ks.length ≤ 1000)
    (q : ∀ h' tk, RowAt prog w a b D h' d (ks ++ [k]) → Heap.SameBut d s.heap h' → Q () { s with heap := h', toks := tk }) : wpAny (model prog w) A (setItem (.ref d) u v) Q E s := by
  obtain ⟨p, rfl, dp, hk⟩ := h
  obtain ⟨es, hm, hD, hp⟩ := hr
  refine wpAny_setItem_heap (knd := tupleKind (mixKind prog w)) (show A.units + 1 < cLine by have := cLine_9900; omega) hk hm (fun h' hm' hs => q h' _ (rowStore (h := s.heap) hn hp hD dp hv hm') hs) (by rw [hp.length, sizeLine_eq]; omega)

theorem row_ents {D : Addr → Prop} {h : Heap} {d : Addr} {ks : List Int} (x : RowAt prog w a b D h d ks) : ∃ es ep, EntsAt h d es ep ∧ es.size = ks.length ∧ Paired (fun (e : DictEntry) k => (tKey prog w a b).is D h e.key k ∧ tInt.is D h e.val 1) es.toList ks := by
  obtain ⟨es, ⟨o, e, ep, ho, hx, hdt, he, his, hn⟩, hD, hp⟩ := x
  refine ⟨e, ep, ⟨o, ho, hx.1, hdt⟩, by rw [size_of_entries he, hp.length], ?_⟩
  rw [he]
  clear he hn
  induction hp with
  | nil => exact .nil
  | @cons y k es ks q _ ih => exact .cons ⟨⟨_, rfl, hD y (.head _), q.1 ▸ his y (.head _)⟩, q.2⟩ (ih (fun z m => his z (.tail _ m)) fun z m => hD z (.tail _ m))

def StItems (prog : Program) (w : World) (a b : Str) (D : Addr → Prop) (it d : Addr) (ps : List (Int × Int)) (h : Heap) : Prop :=
  ¬ D d ∧ it ≠ d ∧ ∃ i ok ov ep es ks, IsItemIter h it d i (Array.size es) ep ok ov ∧ EntsAt h d es ep ∧ Paired (fun (e : DictEntry) k => (tKey prog w a b).is D h e.key k ∧ tInt.is D h e.val 1) (es.toList.drop i) ks ∧ ps = ks.map fun k => (k, 1)

theorem entsFirm {h : Heap} {d : Addr} {es : Array DictEntry} {ep : Nat} (x : EntsAt h d es ep) {D : Addr → Prop} {h' : Heap} (nd : ¬ D d) (le : Le D h h') : EntsAt h' d es ep := by
  obtain ⟨o, ho, hc, hd⟩ := x
  exact ⟨o, le d o nd (by unfold Firm; rw [hd]; trivial) ho, hc, hd⟩

theorem src_items (hh : A.handled = none) (els : List Expr) (kk : Nat) (pt : Pos) (it d : Addr) : SrcF prog w A D (tPair (tKey prog w a b) tInt) (.Tuple els kk pt) (.ref it) [it] (StItems prog w a b D it d) where
  draw := fun {x ps s Q E} st l q => by
    obtain ⟨nd, hne, i, ok, ov, ep, es, ks, hi, hm, hp, hx⟩ := st
    cases ks with
    | nil => cases hx
    | cons k ks =>
      obtain ⟨rfl, rfl⟩ := List.cons.inj hx
      obtain ⟨e, he, he'⟩ := paired_get hp 0 k rfl
      have hei : es[i]? = some e := by simpa using he
      refine next_itemsE hi hm hei fun h1 ho ht hk => ⟨_, rfl, wpAny_letOwnedTupleGo_items ho fun h2 hi2 hs2 => ?_⟩
      have hil : it < s.heap.objs.size := Heap.lt_size hi
      have old : ∀ c o, c ∉ [it] → s.heap.get? c = some o → h2.get? c = some o := fun c o nc ec => (hs2.2 c fun z => nc (z ▸ .head _)).trans (hk c o (fun z => nc (z ▸ .head _)) ec)
      have hle : Le D s.heap h2 := fun c o ncd f ec => old c o (fun m => by
        cases m with
        | head => rw [hi] at ec; cases ec; exact f
        | tail _ m => cases m) ec
      refine q _ _ ⟨h2, s.toks, rfl, old⟩ ⟨_, 0, _, _, rfl, live_fresh l, (hs2.2 _ (Nat.ne_of_gt hil)).trans ht, (tKey prog w a b).mono hle he'.1, tInt.mono hle he'.2⟩ ⟨nd, hne, i + 1, _, _, ep, es, ks, hi2, entsFirm hm nd hle, ?_, rfl⟩
      have := paired_drop hp 1
      rw [List.drop_drop] at this
      exact paired_mono (fun _ _ z => ⟨(tKey prog w a b).mono hle z.1, tInt.mono hle z.2⟩) this
  fin := fun {s Q E} st q => by
    obtain ⟨nd, hne, i, ok, ov, ep, es, ks, hi, hm, hp, hx⟩ := st
    cases ks with
    | cons k ks => cases hx
    | nil =>
      have hl := hp.length
      refine next_items_endE hh hi hm ?_ fun h' hs => ⟨rfl, q _ (stepI_ext hs (.head _))⟩
      simp only [List.length_drop, List.length_nil] at hl
      simpa using (by omega : es.toList.length ≤ i)
  frame := fun {xs h h'} st le keep => by
    obtain ⟨nd, hne, i, ok, ov, ep, es, ks, hi, hm, hp, hx⟩ := st
    exact ⟨nd, hne, i, ok, ov, ep, es, ks, keep _ (.head _) _ hi, entsFirm hm nd le, paired_mono (fun _ _ z => ⟨(tKey prog w a b).mono le z.1, tInt.mono le z.2⟩) hp, hx⟩
  here := fun st c m => by
    obtain ⟨nd, hne, i, ok, ov, ep, es, ks, hi, _⟩ := st
    cases m with
    | head => exact ⟨_, _, hi, rfl⟩
    | tail _ m => cases m

def StVals (D : Addr → Prop) (it d : Addr) (ns : List Int) (h : Heap) : Prop :=
  ¬ D d ∧ it ≠ d ∧ ∃ i ep es, h.IsValIter it d i (Array.size es) ep ∧ EntsAt h d es ep ∧ Paired (fun (e : DictEntry) n => tInt.is D h e.val n) (es.toList.drop i) ns

theorem src_vals (hh : A.handled = none) (tg : Expr) (it d : Addr) : SrcF prog w A D tInt tg (.ref it) [it] (StVals D it d) where
  draw := fun {x xs s Q E} st l q => by
    obtain ⟨nd, hne, i, ep, es, hi, hm, hp⟩ := st
    obtain ⟨e, he, t, hv⟩ := paired_get hp 0 x rfl
    have hei : es[i]? = some e := by simpa using he
    refine next_valuesE hi hm hei fun h1 hi1 hs1 => ⟨_, rfl, ?_⟩
    obtain ⟨o, ho, hc, hd⟩ := id hi
    obtain ⟨o1, ho1, hc1, hd1⟩ := id hi1
    have hle : Le D s.heap h1 := le_of_sameBut hs1 (.inr fun o' e' f => by
      rw [ho] at e'; cases e'
      unfold Firm at f; rw [hd] at f; exact f)
    rw [hv]
    refine letOwned_list ho1 hc1 hd1 (by decide) (q _ _ (stepI_same hs1 (.head _)) ⟨_, rfl⟩ ⟨nd, hne, i + 1, ep, es, hi1, entsFirm hm nd hle, ?_⟩)
    have := paired_drop hp 1
    rw [List.drop_drop] at this
    exact paired_mono (fun _ _ z => z) this
  fin := fun {s Q E} st q => by
    obtain ⟨nd, hne, i, ep, es, hi, hm, hp⟩ := st
    have hl := hp.length
    refine next_values_endE hh hi hm ?_ fun h' hs => ⟨rfl, q _ (stepI_ext hs (.head _))⟩
    simp only [List.length_drop, List.length_nil] at hl
    simpa using (by omega : es.toList.length ≤ i)
  frame := fun {xs h h'} st le keep => by
    obtain ⟨nd, hne, i, ep, es, hi, hm, hp⟩ := st
    obtain ⟨o, ho, r⟩ := hi
    exact ⟨nd, hne, i, ep, es, ⟨o, keep _ (.head _) _ ho, r⟩, entsFirm hm nd le, hp⟩
  here := fun st c m => by
    obtain ⟨nd, hne, i, ep, es, ⟨o, ho, hc, hd⟩, _⟩ := st
    cases m with
    | head => exact ⟨o, _, ho, hd⟩
    | tail _ m => cases m

theorem noDict_ents {h : Heap} {d : Addr} {ks : List Int} (x : RowAt prog w a b D h d ks) : ∀ c, Value.ref d = .ref c → ∃ oc, h.get? c = some oc ∧ oc.dict = none := fun c e => by
  obtain ⟨es, ⟨o, e', ep, ho, hx, _⟩, _⟩ := x
  cases e
  exact ⟨o, ho, hx.2.1⟩

/-- row.items() -/
theorem iters_items {x : Str} {apos : Pos} {ks : List Int} {els : List Expr} {kk : Nat} {pt : Pos} (hh : A.handled = none) (he : Has prog w A D s (eval (.Name x px) env) (tRow prog w a b) ks) (hl : (apos.endLine == pos.line) = true := by rfl) :
    ItersF prog w A D s (.Call (.Attribute (.Name x px) "items" apos) [] [] pos) env (tPair (tKey prog w a b) tInt) (.Tuple els kk pt) (ks.map fun k => (k, 1)) := fun s' k l => by
  refine wpAny_Call_method0_late rfl hl (wpAny_mono (he s' k l) (fun v s₁ h => ?_) fun _ _ e => e)
  obtain ⟨k1, d, rfl, nd, big, hr⟩ := h
  obtain ⟨es, ep, hm, hsz, hp⟩ := row_ents hr
  have lo : (d == sysModules) = false := by
    have : ¬ d = sysModules := fun e => by rw [e] at big; exact absurd big (by decide)
    simpa using this
  refine ⟨"dict", "dict.items", PySem.F.plainAttrs_dict, PySem.F.slot_dict_items, PySem.F.type_dict_items, hm.typeIs, noDict_ents hr, callWith_method0 (env := env) (call_itemsE lo hm ?_)⟩
  have k2 : Keeps s₁ { s₁ with heap := s₁.heap.push { cls := .type "dict_items", data := .fields #[.ref d] } } := keeps_push _ _
  have hm2 := hm.get (h' := s₁.heap.push { cls := .type "dict_items", data := .fields #[.ref d] }) fun o e => keeps_get k2 e
  refine iter_itemsE ⟨_, Heap.get?_push_size _ rfl, rfl, rfl⟩ hm2 fun h' hi hk => ?_
  have k3 : Keeps { s₁ with heap := s₁.heap.push { cls := .type "dict_items", data := .fields #[.ref d] } } { s₁ with heap := h' } := ⟨h', _, rfl, hk⟩
  have k13 := keeps_trans k2 k3
  refine ⟨keeps_trans k1 k13, [_], fun c m => ?_, fun D' hD' => ⟨_, src_items hh els kk pt _ d, fun q => ?_, ?_, 0, _, _, ep, es, ks, hi, hm2.get fun o e => hk _ _ e, ?_, rfl⟩⟩
  · cases m with
    | head => exact none_of_keeps (keeps_trans k1 k2)
    | tail _ m => cases m
  · obtain ⟨o, ho, _⟩ := hm
    exact nd (hD' _ _ (keeps_get k13 ho) q)
  · obtain ⟨o, ho, _⟩ := hm2
    exact fun e => Nat.lt_irrefl _ (e ▸ Heap.lt_size ho)
  · exact paired_mono (fun e y z => ⟨(tKey prog w a b).wide hD' ((tKey prog w a b).mono (keeps_le k13 D) z.1), z.2⟩) hp

/-- row.values() -/
theorem iters_values {x : Str} {apos : Pos} {ks : List Int} {tg : Expr} (hh : A.handled = none) (he : Has prog w A D s (eval (.Name x px) env) (tRow prog w a b) ks) (hl : (apos.endLine == pos.line) = true := by rfl) :
    ItersF prog w A D s (.Call (.Attribute (.Name x px) "values" apos) [] [] pos) env tInt tg (ks.map fun _ => 1) := fun s' k l => by
  refine wpAny_Call_method0_late rfl hl (wpAny_mono (he s' k l) (fun v s₁ h => ?_) fun _ _ e => e)
  obtain ⟨k1, d, rfl, nd, big, hr⟩ := h
  obtain ⟨es, ep, hm, hsz, hp⟩ := row_ents hr
  have lo : (d == sysModules) = false := by
    have : ¬ d = sysModules := fun e => by rw [e] at big; exact absurd big (by decide)
    simpa using this
  refine ⟨"dict", "dict.values", PySem.F.plainAttrs_dict, PySem.F.slot_dict_values, PySem.F.type_dict_values, hm.typeIs, noDict_ents hr, callWith_method0 (env := env) (call_valuesE lo hm ?_)⟩
  have k2 : Keeps s₁ { s₁ with heap := s₁.heap.push { cls := .type "dict_values", data := .fields #[.ref d] } } := keeps_push _ _
  have hm2 := hm.get (h' := s₁.heap.push { cls := .type "dict_values", data := .fields #[.ref d] }) fun o e => keeps_get k2 e
  refine iter_valuesE ⟨_, Heap.get?_push_size _ rfl, rfl, rfl⟩ hm2 fun h' hi hk => ?_
  have k3 : Keeps { s₁ with heap := s₁.heap.push { cls := .type "dict_values", data := .fields #[.ref d] } } { s₁ with heap := h' } := ⟨h', _, rfl, hk⟩
  have k13 := keeps_trans k2 k3
  refine ⟨keeps_trans k1 k13, [_], fun c m => ?_, fun D' hD' => ⟨_, src_vals hh tg _ d, fun q => ?_, ?_, 0, ep, es, hi, hm2.get fun o e => hk _ _ e, ?_⟩⟩
  · cases m with
    | head => exact none_of_keeps (keeps_trans k1 k2)
    | tail _ m => cases m
  · obtain ⟨o, ho, _⟩ := hm
    exact nd (hD' _ _ (keeps_get k13 ho) q)
  · obtain ⟨o, ho, _⟩ := hm2
    exact fun e => Nat.lt_irrefl _ (e ▸ Heap.lt_size ho)
  · rw [List.drop_zero]
    clear hm hsz hm2 hi he hr
    generalize es.toList = l at hp
    induction hp with
    | nil => exact .nil
    | cons z _ ih => exact .cons z.2 ih

theorem ex_augadd {x : Str} {e : Expr} {i j : Int} {Q : Flow → Shared → Prop} {E : Value → Shared → Prop} (X : Ex g s₀ D env s ρ) (h : ρ x = some ⟨tInt, i⟩) (he : Has prog w A D s (eval e env) tInt j) (o : Own s₀ env x)
    (q : ∀ s', Ex g s₀ D env s' (upd ρ x ⟨tInt, i + j⟩) → Others D env s s' → Q .next s') : wpAny (model prog w) A (exec (.AugAssign (.Name x px) .Add e pos) env) Q E s :=
  wpAny_AugAssign_Name (X.load h fun v ht => he.use X.live fun u s' k hu => by
    obtain ⟨t, rfl⟩ := ht
    obtain ⟨t', rfl⟩ := hu
    refine AutoIntOps.iadd_0 ?_
    have kt := keeps_toks s' (s'.toks + 1)
    exact (X.up (keeps_trans k kt)).store (T := tInt) (y := i + j) o ⟨_, rfl⟩ fun s'' X'' ot => q s'' X'' (others_trans (others_keeps (keeps_trans k kt)) ot))

theorem has_row0T {pos : Pos} (a b : Str) (C : Cx g mg mb) (X : Ex g s₀ D env s ρ) : Hs prog w A D s (eval (.Dict [] [] pos) env) fun h v => ∃ p, v = .ref p ∧ s.heap.get? p = none ∧ (∃ o, h.get? p = some o) ∧ 1 < p ∧ h.get? p = some { cls := .type "dict", data := .dict #[] } := Hs.of fun s' Q k l q =>
  wpAny_Dict_empty (q _ _ (keeps_push _ _) ⟨_, rfl, none_of_keeps k, ⟨_, Heap.get?_push_size _ rfl⟩, size_big C (X.up k), Heap.get?_push_size _ rfl⟩)
theorem row_empty {a b : Str} {D : Addr → Prop} {h : Heap} {d : Addr} (e : h.get? d = some { cls := .type "dict", data := .dict #[] }) : RowAt prog w a b D h d [] :=
  ⟨[], ⟨_, #[], 0, e, ⟨rfl, rfl, rfl⟩, rfl, rfl, (fun _ m => nomatch m), List.nodup_nil⟩, (fun _ m => nomatch m), .nil⟩

/-- a name takes an object made by this very step, the frame's own from now on -/
theorem ex_assign_own {x : Str} {px' : Pos} {e : Expr} {P : Heap → Addr → Prop} {Q : Flow → Shared → Prop} {E : Value → Shared → Prop} (X : Ex g s₀ D env s ρ)
    (he : Hs prog w A D s (eval e env) fun h v => ∃ p, v = .ref p ∧ s.heap.get? p = none ∧ (∃ o, h.get? p = some o) ∧ P h p) (o : Own s₀ env x)
    (h : ∀ s₁ p s', Keeps s s₁ → s.heap.get? p = none → p ≠ env.locals → P s₁.heap p → Ex g s₀ (Plus D p) env s' (upd ρ x ⟨tVal, .ref p⟩) → Oth env s₁ s' → Le D s₁.heap s'.heap → Others D env s s' → Q .next s')
    (hs : swapsWith e (some (.Name x px')) pos.line env = pure false := by rfl) : wpAny (model prog w) A (exec (.Assign [.Name x px'] e pos) env) Q E s := by
  refine wpAny_Assign_Name (he.use X.live fun v s₁ k hv => ?_) hs
  obtain ⟨p, rfl, hp, ⟨op, ho⟩, hP⟩ := hv
  have hL : p ≠ env.locals := by
    rintro rfl
    obtain ⟨m0, o0, _, _, e0, _⟩ := X.fm.ns
    rw [hp] at e0; cases e0
  have hl : Live (Plus D p) s₁.heap := fun a d => by
    rcases d with d | rfl
    · exact live_keeps X.live k a d
    · exact ⟨op, ho⟩
  have X₁ := X.grow k (plus_wide hp) hl (.inl X.fm.volL)
  refine X₁.store (T := tVal) (y := .ref p) o rfl fun s' X' ot => ?_
  have le : Le D s₁.heap s'.heap := fun b ob nd f eb => (oth_others ot) b ob eb (fun q => nd (q ▸ X.fm.volL)) f
  refine h s₁ p s' k hp hL hP X' (oth_others ot) le ⟨fun b ob eb nb nc => ot.still b ob (keeps_get k eb) nb nc, ⟨fun b ob nd f eb => le b ob nd f (keeps_get k eb), fun b ob vs eb d => ot.calm.fields b ob vs (keeps_get k eb) d⟩⟩

/-- row[func] = caller, in a loop -/
theorem ex_setrow {r f c : Str} {pr pf pc ps : Pos} {d : Addr} {k : Int} {ks : List Int} {Q : Flow → Shared → Prop} {E : Value → Shared → Prop} (X : Ex g s₀ D env s ρ) (hu : A.units ≤ 9000)
    (hc : Has prog w A D s (eval (.Name c pc) env) tInt 1) (hr : Has prog w A D s (eval (.Name r pr) env) tVal (.ref d)) (hf : Has prog w A D s (eval (.Name f pf) env) (tKey prog w a b) k)
    (row : RowAt prog w a b D s.heap d ks) (hn : k ∉ ks) (hl : ks.length ≤ 1000) (dd : D d) (nd : s₀.heap.get? d = none) (hL : d ≠ env.locals)
    (q : ∀ s', Ex g s₀ D env s' ρ → RowAt prog w a b D s'.heap d (ks ++ [k]) → Calm D s s' → Q .next s') :
    wpAny (model prog w) A (exec (.Assign [.Subscript (.Name r pr) (.Name f pf) ps] (.Name c pc) pos) env) Q E s := by
  refine wpAny_Assign_Subscript (hc.use X.live fun v s₁ k₁ hv => (hr.up k₁).use (live_keeps X.live k₁) fun u s₂ k₂ hu2 => (hf.up (keeps_trans k₁ k₂)).use (live_keeps X.live (keeps_trans k₁ k₂)) fun x s₃ k₃ hx => ?_) (by rfl)
  cases hu2
  have kk := keeps_trans (keeps_trans k₁ k₂) k₃
  have row₃ := row.up (fun o e _ => keeps_get kk e) (keeps_le kk D)
  refine set_row (D := D) hu hx (tInt.mono (keeps_le (keeps_trans k₂ k₃) D) hv) row₃ hn hl fun h' tk row' hs => ?_
  obtain ⟨o, ho, fo⟩ := row₃.here
  obtain ⟨o', ho', _⟩ := row'.here
  obtain ⟨X', c'⟩ := (X.up kk).mut (tk := tk) hs dd nd ho fo ho' hL
  exact q _ X' row' ((Calm.keeps kk).trans c')
end
end Mine

end
section
set_option maxRecDepth 100000
open PySem PySem.W PyProof.Rows PySem.Calls
namespace Mine
section
variable {prog : Program} {w : World} {A : Around} {D : Addr → Prop} {s s₁ s₀ : Shared} {g : Heap} {env : Env} {ρ : Rho} {mg mb : Str → Option Value} {sc : Scope} {px pos : Pos}

theorem swaps_yes {elt : Expr} {gens : List Comprehension} {scope : Scope} {pos py : Pos} {y : Str} {line : Nat} (K : Kinds sc env) (hb : env.blockKind = .function) (hk : sc.names.lookup y = some .local) (hl : (py.line == pos.line) = true)
    (hn : (scope.names.any fun (n, k) => n == y && (k == .local || k == .cell)) = false) : swapsWith (.ListComp elt gens scope pos) (some (.Name y py)) line env = pure true := by
  unfold swapsWith
  dsimp only
  rw [hb, K.kd hk (by decide), show (Expr.ListComp elt gens scope pos).pos = pos from rfl, hl, hn]
  rfl

/-- xs[i] of a list of the frame's own -/
theorem has_own_item {x : Str} {slice : Expr} {α : Type} {T : Ty α} {xs : List α} {p : Addr} {i : Int} {y : α} (a : Acc T D p s.heap xs) (ha : Has prog w A D s (eval (.Name x px) env) tVal (.ref p)) (hb : Has prog w A D s (eval slice env) tInt i)
    (h0 : 0 ≤ i) (hhi : i < 2 ^ 63) (hy : xs[i.toNat]? = some y) (hs : ∀ o k t, subscripted slice false (.ref o) (.int k t) = operate [.ref o, .int k t] (getItem (.ref o) (.int k t)) := by intro _ _ _; with_unfolding_all rfl) :
    Has prog w A D s (eval (.Subscript (.Name x px) slice pos) env) T y :=
  hs_sub ha hb fun s₁ u v k hu hv => by
    cases hu
    obtain ⟨t, rfl⟩ := hv
    obtain ⟨vs, m, hg, hp⟩ := acc_keeps a k
    obtain ⟨z, hz, hz'⟩ := paired_get hp _ _ hy
    exact Hs.of fun s' Q k' l q => subscriptTail_builtin (isList_of (keeps_get k' hg)).typeIs slot_list_getitem.lookup (wpAny_getItem_list (isList_of (keeps_get k' hg)) h0 hhi (by simpa using hz) (q _ _ (keeps_refl _) (T.mono (keeps_le k' D) hz'))) (hs _ _ _)

theorem paired_set {α β : Type} {F : α → β → Prop} {a : List α} {b : List β} (h : Paired F a b) : ∀ (n : Nat) {x : α} {y : β}, F x y → Paired F (a.set n x) (b.set n y) := by
  induction h with
  | nil => intro n x y _; simpa using Paired.nil
  | cons q r ih =>
    intro n x y f
    cases n with
    | zero => exact .cons f r
    | succ n => exact .cons q (ih n f)

/-- xs[i] = e for such a list: the new object -/
theorem setItem_list_obj {l : Addr} {items : Array Value} {m : Nat} {k : Int} {t : Tok} {v : Value} {Q : Unit → Shared → Prop} {E : Value → Shared → Prop} (hl : s.heap.get? l = some (lstObj items m)) (h0 : 0 ≤ k) (hfit : k < 2 ^ 63) (hn : k < items.size)
    (hQ : ∀ h' m', h'.get? l = some (lstObj (items.setIfInBounds k.toNat v) m') → Heap.SameBut l s.heap h' → Q () { s with heap := h' }) : wpAny (model prog w) A (setItem (.ref l) (.int k t) v) Q E s := by
  unfold setItem
  try with_reducible refine wpAny_holding ?_
  refine wpAny_bind (wpAny_sequenceKey (isList_of hl).typeIs (by decide) ?_)
  refine wpAny_bind (wpAny_callSpecial?_slot (name := Str.ofString "__setitem__") (isList_of hl).typeIs slot_list_setitem
    (wpAny_call_entry slot_list_setitem (isList_of hl).typeIs entry_list_setitem ?_ (args_list_setitem _ _ _)))
  show wpAny _ _ (Builtin.List.listSubscript? (.int k t) >>= _) _ _ s
  refine wpAny_bind (wpAny_listSubscript_int (fitsIndex_of h0 hfit) ?_)
  clear hfit
  obtain ⟨j, rfl⟩ := Int.eq_ofNat_of_zero_le h0
  have hj : j < items.size := by omega
  show wpAny _ _ ((seqItemAt l j >>= fun r => pure (r.map (j, ·))) >>= _) _ _ s
  refine wpAny_bind (wpAny_bind (wpAny_seqItemAt hl rfl (wpAny_pure ?_)))
  rw [Array.getElem?_eq_getElem hj]
  show wpAny _ _ (setSeqItemAt l j v >>= _) _ _ s
  exact wpAny_bind (wpAny_setSeqItemAt hl rfl (wpAny_pure ⟨.none, rfl, wpAny_pure (hQ _ _ (Heap.get?_update_self _ hl rfl) (Heap.SameBut.update ..))⟩))

theorem ex_own_set {x : Str} {slice e : Expr} {ps : Pos} {α : Type} {T : Ty α} {xs : List α} {p : Addr} {i : Int} {y : α} {Q : Flow → Shared → Prop} {E : Value → Shared → Prop} (X : Ex g s₀ D env s ρ) (a : Acc T D p s.heap xs) (dp : D p) (np : s₀.heap.get? p = none) (hL : p ≠ env.locals)
    (he : Has prog w A D s (eval e env) T y) (ha : Has prog w A D s (eval (.Name x px) env) tVal (.ref p)) (hb : Has prog w A D s (eval slice env) tInt i) (h0 : 0 ≤ i) (hi : i < xs.length) (hl : xs.length ≤ 1000)
    (q : ∀ s', Ex g s₀ D env s' ρ → Acc T D p s'.heap (xs.set i.toNat y) → Calm D s s' → Q .next s') (hsw : swapsWith e (some (.Subscript (.Name x px) slice ps)) pos.line env = pure false := by rfl) :
    wpAny (model prog w) A (exec (.Assign [.Subscript (.Name x px) slice ps] e pos) env) Q E s := by
  refine wpAny_Assign_Subscript (he.use X.live fun v s₁ k₁ hv => (ha.up k₁).use (live_keeps X.live k₁) fun u s₂ k₂ hu2 => (hb.up (keeps_trans k₁ k₂)).use (live_keeps X.live (keeps_trans k₁ k₂)) fun z s₃ k₃ hz => ?_) hsw
  cases hu2
  obtain ⟨t, rfl⟩ := hz
  have kk := keeps_trans (keeps_trans k₁ k₂) k₃
  obtain ⟨vs, m, hg, hp⟩ := acc_keeps a kk
  have hlen := hp.length
  refine setItem_list_obj hg h0 (by omega) (by rw [List.size_toArray, hlen]; omega) fun h' m' hl' hs => ?_
  obtain ⟨X', c'⟩ := (X.up kk).mut (tk := s₃.toks) hs dp np hg (firm_lst _ _) hl' hL
  refine q _ X' ⟨vs.set i.toNat v, m', by rw [hl']; simp, ?_⟩ ((Calm.keeps kk).trans c')
  exact paired_mono (fun _ _ => T.mono c'.le) (paired_set hp _ (T.mono (keeps_le (keeps_trans k₂ k₃) D) hv))

theorem ex_compM {scope : Scope} (K : Kinds sc env) (hbk : env.blockKind = .function) {y : Str} {py spos : Pos} {elt iter : Expr} {n : Str} {pn : Pos} {ifs : List Expr} {α β : Type} {T : Ty α} {U : Ty β} (p : α → Bool) (f : α → β) {xs : List α} {Q : Flow → Shared → Prop} {E : Value → Shared → Prop}
    (X : Ex g s₀ D env s ρ) (hi : Iters prog w A D s iter env T (.Name n pn) xs) (hsz : xs.length ≤ 9000)
    (ht : ∀ x ∈ xs, ∀ env' s' D' s₁, Keeps s s' → Kinds scope env' → Ex g s' D' env' s₁ (upd (pick (freeOf scope) ρ) n ⟨T, x⟩) → Tests prog w A D' s₁ ifs env' (p x))
    (he : ∀ x ∈ xs, p x = true → ∀ env' s' D' s₁, Keeps s s' → Kinds scope env' → Ex g s' D' env' s₁ (upd (pick (freeOf scope) ρ) n ⟨T, x⟩) → Has prog w A D' s₁ (eval elt env') U (f x))
    (h : ∀ s' q, s.heap.get? q = none → Ex g s₀ (Plus D q) env s' (upd ρ y ⟨tVal, .ref q⟩) → Acc U (Plus D q) q s'.heap ((xs.filter p).map f) → q ≠ env.locals → Others D env s s' → Q .next s')
    (hfree : ∀ x ∈ freeOf scope, sc.names.lookup x = some .cell ∨ sc.names.lookup x = some .free := by decide +kernel) (hk : scope.kind = .function := by rfl)
    (hln : ∀ x ∈ scope.names, x.2 = .local → scope.names.lookup x.1 = some .local := by decide +kernel)
    (hp : ∀ z ∈ freeOf scope, scope.names.lookup z = some .free ∧ (z, NameKind.cell) ∉ scope.names ∧ (z == ("__classdict__" : Str)) = false := by decide +kernel)
    (hn : scope.names.lookup n = some .local ∨ scope.names.lookup n = some .cell := by decide +kernel) (hfl : (freeOf scope).contains n = false := by decide +kernel)
    (hy : sc.names.lookup y = some .local := by decide +kernel) (hline : (py.line == pos.line) = true := by rfl) (hno : (scope.names.any fun (n, k) => n == y && (k == .local || k == .cell)) = false := by decide +kernel)
    (hs : ∀ x, foldedSetIterable iter env x = pure x := by intro _; rfl) :
    wpAny (model prog w) A (exec (.Assign [.Name y py] (.ListComp elt [⟨.Name n pn, iter, ifs, 0⟩] scope pos) spos) env) Q E s :=
  ex_assign_compNM X (own_local K hy) hi (compScope_mk K hfree hk hln hp) hsz hn hfl ht he h (swaps_yes K hbk hy hline hno) hs
theorem blockOf {scope : Scope} (h : env.scope = scope) (hk : scope.kind = .function := by rfl) : env.blockKind = .function := by
  unfold Env.blockKind
  rw [h, hk]
  rfl
end
end Mine

end
section
set_option maxRecDepth 100000
open PySem PySem.W PyProof.Rows PySem.Calls
namespace Mine
section
variable {prog : Program} {w : World} {A : Around} {D : Addr → Prop} {s s₁ s₀ : Shared} {g : Heap} {env : Env} {ρ : Rho} {mg mb : Str → Option Value} {sc : Scope} {px pos : Pos}

theorem Ex.base {s₀' : Shared} (X : Ex g s₀ D env s ρ) (k : Keeps s₀' s₀) (hg : Sub g s₀'.heap) : Ex g s₀' D env s ρ :=
  ⟨hg, keeps_trans k X.kp, X.live, ⟨X.fm.kind, X.fm.ns, keeps_none k X.fm.newL, X.fm.volL, X.fm.cells, X.fm.apart, X.fm.cellOk, X.fm.glob, X.fm.names⟩⟩
theorem Own.base {s₀' : Shared} {x : Str} (o : Own s₀ env x) (k : Keeps s₀' s₀) : Own s₀' env x := o.imp id fun ⟨a, c, e, n⟩ => ⟨a, c, e, keeps_none k n⟩

/-- a module's function whose body makes functions: its code's table lies at P -/
structure FnTab (g : Heap) (mg : Str → Option Value) (name : Str) (params : Arguments) (body : List Stmt) (scope : Scope) (f : Value) (P : Addr) : Prop where
  nm : mg name = some f
  fn : ∃ a o pm c doc, f = .ref a ∧ g.get? a = some o ∧ o.data = .func (docDef name params body scope pm (.ref c) doc) ∧ g.CodeRec (.ref c) name ∧ CodeHd g c P
theorem FnTab.at {name : Str} {params : Arguments} {body : List Stmt} {scope : Scope} {f : Value} {P : Addr} (F : FnTab g mg name params body scope f P) : FnAt g mg name params body scope f :=
  let ⟨a, o, pm, c, doc, e1, e2, e3, e4, _⟩ := F.fn; ⟨F.nm, a, o, pm, _, doc, e1, e2, e3, e4⟩

/-- a call of such a function, whatever it leaves -/
theorem wp_fn {name : Str} {params : Arguments} {body : List Stmt} {scope : Scope} {f : Value} {k : Nat} {Q : Value → Shared → Prop} (W : Wd g mg mb) (hg : Sub g s.heap) (l : Live D s.heap) (F : FnAt g mg name params body scope f) (R : Rm A (k + 1))
    (b : Binds) (hbind : ∀ pm cd doc, bindArgs (docDef name params body scope pm cd doc) ⟨b.map (·.2.1), []⟩ = pure b.plain)
    (ht : ∀ t ∈ b, t.2.2.T.is D s.heap t.2.1 t.2.2.y)
    (h : ∀ env, env.scope = scope → (∀ P, FnTab g mg name params body scope f P → ∃ c, env.code = .ref c ∧ CodeHd g c P) → Rm (A.deeper env) k → (∀ n, scope.names.lookup n = some .local ∨ scope.names.lookup n = some .cell → Own s env n) → s.heap.get? env.locals = none →
      ∀ s₂, Ex g s (Plus D env.locals) env s₂ b.rho → wpAny (model prog w) (A.deeper env) (execs body env) (fun fl s' => Q (match fl with | .ret v => v | _ => .none) s') NE s₂)
    (bn : List Str) (hbn : b.map (·.1) = bn) (hn' : bn.Nodup) (hloc' : ∀ t ∈ bn, scope.names.lookup t = some .local ∨ scope.names.lookup t = some .cell)
    (hfr : ∀ y ∈ scope.names, y.2 ≠ .free)
    (hco : scope.isCoroutine = false := by rfl) (hgen : scope.isGenerator = false := by rfl) (hk : scope.kind = .function := by rfl) :
    wpAny (model prog w) A (call f (b.map (·.2.1))) Q NE s := by
  subst hbn
  have hn := hn'
  have hloc : ∀ n, ∀ t ∈ b, scope.names.lookup t.1 = some .local ∨ (scope.names.lookup t.1 = some .cell ∧ ((cellsFrom n scope.names []).lookup t.1).isSome = true) := fun n t m =>
    (hloc' _ (List.mem_map.mpr ⟨t, m, rfl⟩)).imp id fun e => ⟨e, cellsFrom_some _ _ _ (.inl e)⟩
  obtain ⟨a, o, pm, cd, doc, rfl, ho, hd, hcd⟩ := F.fn
  refine wpAny_call (codeAny_call_function (by have := R.depth; show A.depth < 1000; omega) (hg _ _ ho) hd hco hgen rfl (by
    obtain ⟨c, oc, vs, t, e1, e2, e3, e4⟩ := hcd
    exact ⟨c, oc, vs, t, e1, hg _ _ e2, e3, e4⟩) ?_)
  rw [hbind]
  refine wpAny_pure (wpAny_newFunctionEnv_cells hk (fun t ht => ?_) fun env he s₂ x => ?_)
  · obtain ⟨t', ht', rfl⟩ := List.mem_map.mp ht
    exact hloc _ t' ht'
  · have X : Ex g s (Plus D env.locals) env s₂ b.rho := frame_new hk he x hn (hloc _) ht hg l hfr
    refine ⟨(W.lim.keeps hg).keeps fun b o e => keeps_get X.kp e, codeAny_func ?_⟩
    have hsc : env.scope = scope := by rw [he]; rfl
    refine wpAny_mono (h env hsc (fun P T => ?_) (R.deeper env) (fun n hn => ?_) X.fm.newL s₂ X) (fun fl s'' q => ?_) fun _ _ e => e.elim
    · obtain ⟨a', o', pm', c, doc', e1, e2, e3, e4, e5⟩ := T.fn
      cases e1
      rw [ho] at e2; cases e2
      rw [hd] at e3
      have : cd = .ref c := by
        have := congrArg (fun d : Data => match d with | .func fd => fd.code | _ => .none) e3
        exact this
      exact ⟨c, by rw [he, this]; rfl, e5⟩
    · rcases hn with hn | hn
      · exact .inl ((kinds_of hsc).kd hn (by decide))
      · obtain ⟨c, hc, hge⟩ := cellsFrom_new scope.names (s.heap.objs.size + 1) [] (mem_of_lookup hn)
        exact .inr ⟨(kinds_of hsc).kd hn (by decide), c, by rw [he]; exact hc, none_above (keeps_refl s) (by omega)⟩
    · exact q

/-- a function made by a def in a body -/
def CloAt (h : Heap) (f : Addr) (name qual : Str) (params : Arguments) (body : List Stmt) (scope : Scope) (cl : List (Str × Addr)) : Prop :=
  ∃ o doc pm c ctv, h.get? f = some o ∧ o.data = .func (fnX name qual params body scope cl .none .none doc pm none (.ref c) ctv) ∧ h.CodeRec (.ref c) qual
theorem CloAt.up {h h' : Heap} {f : Addr} {name qual : Str} {params : Arguments} {body : List Stmt} {scope : Scope} {cl : List (Str × Addr)} (x : CloAt h f name qual params body scope cl) {I : List Addr} (k : ∀ b o, b ∉ I → h.get? b = some o → h'.get? b = some o)
    (hI : ∀ b ∈ I, ∀ o, h.get? b = some o → ∃ vs n, o.data = .seq vs n) : CloAt h' f name qual params body scope cl := by
  obtain ⟨o, doc, pm, c, ctv, e, d, c', oc, vs, t, e1, e2, e3, e4⟩ := x
  refine ⟨o, doc, pm, c, ctv, k f o (fun m => ?_) e, d, c', oc, vs, t, e1, k _ _ (fun m => ?_) e2, e3, e4⟩
  · obtain ⟨_, _, z⟩ := hI _ m _ e; rw [d] at z; cases z
  · obtain ⟨_, _, z⟩ := hI _ m _ e2; rw [e3] at z; cases z

/-- what the top says of the builtins' module -/
def Bm (g : Heap) (mg : Str → Option Value) : Prop := ∃ bm ob, mg "__builtins__" = some (.ref bm) ∧ bm ≠ builtinsNs ∧ g.get? bm = some ob ∧ ob.cls = .type "module" ∧ ob.dict = some builtinsNs ∧ ob.data = .plain

/-- a def in a body, made for the first time -/
theorem ex_def {name : Str} {params : Arguments} {body : List Stmt} {scope : Scope} {P c : Addr} {Q : Flow → Shared → Prop} {E : Value → Shared → Prop} (C : Cx g mg mb) (B : Bm g mg) (X : Ex g s₀ D env s ρ) (hcode : env.code = .ref c) (hc : CodeHd g c P)
    (hP : s.heap.get? P = some (tabObj #[])) (hP0 : s₀.heap.get? P = none) (nP : ¬ D P) (hfree : ∀ y ∈ scope.names, y.2 = .free → ∃ c, env.cells.lookup y.1 = some c) (o : Own s₀ env name)
    (q : ∀ s₁ s' f, StepI [P] s s₁ → s.heap.get? f = none → CloAt s₁.heap f name (qualnameIn env name name) params body scope (freeCells env.cells scope.names []) → (∃ ps, s₁.heap.get? P = some (tabObj ps)) →
      Ex g s₀ D env s₁ ρ → Ex g s₀ D env s' (upd ρ name ⟨tVal, .ref f⟩) → Others D env s₁ s' → Q .next s')
    (hd0 : params.defaults = [] := by rfl) (hk0 : params.kw_defaults = [] := by rfl) (ha : annTrees params none env = [] := by rfl) :
    wpAny (model prog w) A (exec (.FunctionDef name params body [] none [] scope none name pos) env) Q E s := by
  refine nestDef_K hd0 hk0 ha ?_
  have hs := X.subs
  have hgs := C.W.ng.keeps hs
  obtain ⟨bm, ob, b1, b2, b3, b4, b5, b6⟩ := B
  have hgP : mainGlobals ≠ P := fun z => by
    obtain ⟨o, es, ep, e, hd, _⟩ := hgs
    rw [z, hP] at e; cases e; cases hd
  have hbP : bm ≠ P := fun z => by
    have e := hs _ _ b3
    rw [z, hP] at e; cases e; cases b4
  have hbG : bm ≠ mainGlobals := fun z => by
    obtain ⟨o, es, ep, e, hd, _⟩ := C.W.ng
    rw [z, e] at b3; cases b3; rw [hd] at b6; cases b6
  refine makeFunction_K (mg := mg) (closureFor_is hfree) X.fm.glob.1 hgs hcode (hc.keeps hs) hP trivial rfl hgP ⟨bm, ob, b1, b2, hbG, hbP, hs _ _ b3, b4, b5, b6⟩ fun c' ctv doc h' tk hx hge hlt hrec htb => ?_
  have st : StepI [P] s { s with heap := h'.push (fnMade name (qualnameIn env name name) params body scope (freeCells env.cells scope.names []) doc ((mg "__name__").getD .none) c' ctv), toks := tk } :=
    ⟨_, tk, rfl, fun b ob nb e => Heap.get?_push_of_some _ (hx b ob (fun z => nb (z ▸ .head _)) e)⟩
  have O : ItOk s₀ s D [P] := by
    refine ⟨fun a m => ?_, fun a m => ?_, fun a m => ?_⟩ <;> (rw [List.mem_singleton] at m; subst m)
    · exact hP0
    · exact nP
    · exact ⟨_, _, hP, rfl⟩
  obtain ⟨X₁, o₁⟩ := X.stepI O st
  have big : s.heap.objs.size ≤ h'.objs.size := Nat.le_trans hge (Nat.le_of_lt hlt)
  refine X₁.store (T := tVal) (y := .ref h'.objs.size) o rfl fun s' X' ot => q _ s' _ st (Heap.get?_none_of_le big) ⟨_, doc, _, c', ctv, Heap.get?_push_size _ rfl, rfl, ?_⟩ ⟨_, Heap.get?_push_of_some _ htb⟩ X₁ X' ot
  obtain ⟨c₂, oc, vs, t, e1, e2, e3, e4⟩ := hrec
  exact ⟨c₂, oc, vs, t, e1, Heap.get?_push_of_some _ e2, e3, e4⟩

theorem lookup_bind {b : Binds} : ∀ {x : Str} {v : Value} {e : Ent}, (b.map (·.1)).Nodup → (x, v, e) ∈ b → b.plain.reverse.lookup x = some v := by
  have key : ∀ (l : List (Str × Value)) (x : Str) (v : Value), (l.map (·.1)).Nodup → (x, v) ∈ l → l.lookup x = some v := by
    intro l
    induction l with
    | nil => intro x v _ m; cases m
    | cons y r ih =>
      intro x v hn m
      have hn' := List.nodup_cons.mp hn
      rw [List.lookup_cons]
      cases m with
      | head => simp
      | tail _ m =>
        have : ¬ x = y.1 := fun q => hn'.1 (List.mem_map.mpr ⟨(x, v), m, q⟩)
        rw [show (x == y.1) = false by simpa using this]
        exact ih x v hn'.2 m
  intro x v e hn m
  refine key _ _ _ ?_ (List.mem_reverse.mpr (List.mem_map.mpr ⟨(x, v, e), m, rfl⟩))
  have : b.plain.map (·.1) = b.map (·.1) := by unfold Binds.plain; rw [List.map_map]; rfl
  rw [List.map_reverse, this]
  unfold List.Nodup
  rw [List.pairwise_reverse]
  exact List.Pairwise.imp (fun h => h.symm) hn

/-- a call of a function that keeps names of the frame around it, whatever it leaves -/
theorem wp_clo {name qual : Str} {params : Arguments} {body : List Stmt} {scope : Scope} {cl : List (Str × Addr)} {f : Addr} {k : Nat} {Q : Value → Shared → Prop} (W : Wd g mg mb) (hg : Sub g s.heap) (l : Live D s.heap) (F : CloAt s.heap f name qual params body scope cl) (R : Rm A (k + 1))
    (b fb : Binds) (hbind : ∀ fd : FuncData, fd.params = params → fd.qualname = qual → fd.defaults = .none → fd.kwdefaults = .none → bindArgs fd ⟨b.map (·.2.1), []⟩ = pure b.plain)
    (ht : ∀ t ∈ b, t.2.2.T.is D s.heap t.2.1 t.2.2.y) (hft : ∀ t ∈ fb, t.2.2.T.is D s.heap t.2.1 t.2.2.y ∧ ∃ c, cl.lookup t.1 = some c ∧ s.heap.IsCell c (some t.2.1)) (hgood : CellsGood s.heap cl)
    (bn fn : List Str) (hbn : b.map (·.1) = bn) (hfn : fb.map (·.1) = fn) (hn' : bn.Nodup) (hloc' : ∀ t ∈ bn, scope.names.lookup t = some .local) (hfree' : ∀ t ∈ fn, scope.names.lookup t = some .free ∧ (t == ("__classdict__" : Str)) = false)
    (hall : ∀ x, scope.names.lookup x = some .free → ∃ c, cl.lookup x = some c) (hcell : ∀ y ∈ scope.names, y.2 ≠ .cell)
    (h : ∀ env, env.scope = scope → Rm (A.deeper env) k → ∀ s₂, Ex g s (Plus D env.locals) env s₂ (b ++ fb).rho → wpAny (model prog w) (A.deeper env) (execs body env) (fun fl s' => Q (match fl with | .ret v => v | _ => .none) s') NE s₂)
    (hco : scope.isCoroutine = false := by rfl) (hgen : scope.isGenerator = false := by rfl) (hk : scope.kind = .function := by rfl) :
    wpAny (model prog w) A (call (.ref f) (b.map (·.2.1))) Q NE s := by
  subst hbn hfn
  have hn := hn'
  have hloc : ∀ t ∈ b, scope.names.lookup t.1 = some .local := fun t m => hloc' _ (List.mem_map.mpr ⟨t, m, rfl⟩)
  have hfree : ∀ t ∈ fb, scope.names.lookup t.1 = some .free ∧ (t.1 == ("__classdict__" : Str)) = false := fun t m => hfree' _ (List.mem_map.mpr ⟨t, m, rfl⟩)
  obtain ⟨o, doc, pm, c, ctv, ho, hd, hcd⟩ := F
  refine wpAny_call (codeAny_call_function (by have := R.depth; show A.depth < 1000; omega) ho hd hco hgen rfl hcd ?_)
  rw [hbind _ rfl rfl rfl rfl]
  refine wpAny_pure (wpAny_newFunctionEnv hcell (fun t m => ?_) (fun h' hns hsb => ?_) hk)
  · obtain ⟨t', ht', rfl⟩ := List.mem_map.mp m
    exact hloc t' ht'
  · have fresh := none_size s.heap
    have old : ∀ b o, s.heap.get? b = some o → h'.get? b = some o := fun b o e => (hsb.2 b fun z => by rw [z, fresh] at e; cases e).trans (Heap.get?_push_of_some _ e)
    have kp : Keeps s { s with heap := h', toks := s.toks + b.plain.length } := ⟨h', _, rfl, old⟩
    have X : Ex g s (Plus D s.heap.objs.size) (newEnv scope s.heap.objs.size mainGlobals cl (qual ++ ".<locals>.") (some f) (.ref c) none builtinsNs) { s with heap := h', toks := s.toks + b.plain.length } (b ++ fb).rho := by
      refine ⟨hg, kp, fun a d => ?_, ⟨hk, ⟨_, hns⟩, fresh, .inr rfl, fun x c e => ?_, hgood.apart, fun x q => ?_, ⟨rfl, rfl⟩, fun z e hz => ?_⟩⟩
      · rcases d with d | rfl
        · obtain ⟨o, e⟩ := l a d
          exact ⟨o, old a o e⟩
        · obtain ⟨o, _, _, e, _⟩ := hns
          exact ⟨o, e⟩
      · obtain ⟨v, hv⟩ := hgood.cell x c e
        exact ⟨v, hv.keeps old⟩
      · rcases q with q | q
        · exact absurd rfl (hcell _ (mem_of_lookup q))
        · exact hall x q
      · obtain ⟨v, hv⟩ := rho_some hz
        rcases List.mem_append.mp hv with m | m
        · exact ⟨v, .inl ⟨hloc _ m, _, hns, lookup_bind hn m⟩, e.T.mono (keeps_le kp _) (e.T.wide (plus_wide fresh) (ht _ m))⟩
        · obtain ⟨t1, c', t2, t3⟩ := hft _ m
          exact ⟨v, .inr ⟨.inr (hfree _ m), c', t2, t3.keeps old⟩, e.T.mono (keeps_le kp _) (e.T.wide (plus_wide fresh) t1)⟩
    refine ⟨(W.lim.keeps hg).keeps old, codeAny_func ?_⟩
    exact wpAny_mono (h (newEnv scope s.heap.objs.size mainGlobals cl (qual ++ ".<locals>.") (some f) (.ref c) none builtinsNs) rfl (R.deeper _) _ X) (fun fl s'' q => q) fun _ _ e => e.elim

/-- a call whose callee leaves what it will -/
theorem wp_call {x : Str} {f : Value} {es : List Expr} {ts : List Ent} {Q : Value → Shared → Prop} {E : Value → Shared → Prop} (l : Live D s.heap) (hf : Has prog w A D s (eval (.Name x px) env) tVal f) (c : Callee s.heap f) (ha : HsL prog w A D s pos env es ts)
    (h : ∀ s₁ vs, Keeps s s₁ → Are D s₁.heap vs ts → wpAny (model prog w) A (call f vs) Q E s₁) (hp : ∀ e ∈ es, isStarred e = false) : wpAny (model prog w) A (eval (.Call (.Name x px) es [] pos) env) Q E s := by
  show wpAny _ A (eval (.Name x px) env >>= fun v => callWith pos v [] (backTo pos (starEach es env)) (backToKw pos (keywordEach [] env))) Q E s
  refine wpAny_bind (hf.use l fun v s₁ k hv => ?_)
  cases hv
  refine callWith_of (P := fun h => Callee h f) (by rw [starEach_backTo_plain hp]; rfl) (fun h x => x.keeper) (evalArgs_of hp ?_)
  exact (ha.up k).use (live_keeps l k) fun vs s₂ k₂ a => ⟨c.keeps (keeps_trans k k₂), h s₂ vs (keeps_trans k k₂) a⟩
theorem wp_call3 {x : Str} {f : Value} {a b c : Expr} {α β γ : Type} {T : Ty α} {y : α} {U : Ty β} {z : β} {V : Ty γ} {t : γ} {Q : Value → Shared → Prop} {E : Value → Shared → Prop} (l : Live D s.heap) (hf : Has prog w A D s (eval (.Name x px) env) tVal f) (hc : Callee s.heap f)
    (ha : Has prog w A D s (eval a env) T y) (hb : Has prog w A D s (eval b env) U z) (hcc : Has prog w A D s (eval c env) V t)
    (h : ∀ s₁ u v w', Keeps s s₁ → T.is D s₁.heap u y → U.is D s₁.heap v z → V.is D s₁.heap w' t → wpAny (model prog w) A (call f [u, v, w']) Q E s₁)
    (h1 : isStarred a = false := by rfl) (h2 : isStarred b = false := by rfl) (h3 : isStarred c = false := by rfl) : wpAny (model prog w) A (eval (.Call (.Name x px) [a, b, c] [] pos) env) Q E s :=
  wp_call l hf hc (hsl_cons ha (hsl_cons hb (hsl_cons hcc hsl_nil (st1 h3)) (st1 h2)) (st1 h1)) (fun s₁ vs k q => by
    obtain ⟨u, v, w', rfl, hu, hv, hw⟩ := q.three
    exact h s₁ u v w' k hu hv hw) (by simp [h1, h2, h3])
theorem wp_call2 {x : Str} {f : Value} {a b : Expr} {α β : Type} {T : Ty α} {y : α} {U : Ty β} {z : β} {Q : Value → Shared → Prop} {E : Value → Shared → Prop} (l : Live D s.heap) (hf : Has prog w A D s (eval (.Name x px) env) tVal f) (hc : Callee s.heap f)
    (ha : Has prog w A D s (eval a env) T y) (hb : Has prog w A D s (eval b env) U z)
    (h : ∀ s₁ u v, Keeps s s₁ → T.is D s₁.heap u y → U.is D s₁.heap v z → wpAny (model prog w) A (call f [u, v]) Q E s₁)
    (h1 : isStarred a = false := by rfl) (h2 : isStarred b = false := by rfl) : wpAny (model prog w) A (eval (.Call (.Name x px) [a, b] [] pos) env) Q E s :=
  wp_call l hf hc (hsl_cons ha (hsl_cons hb hsl_nil (st1 h2)) (st1 h1)) (fun s₁ vs k q => by
    obtain ⟨u, v, rfl, hu, hv⟩ := q.two
    exact h s₁ u v k hu hv) (nost2 h1 h2)

theorem has_bitlen {x : Str} {apos : Pos} {i : Int} (he : Has prog w A D s (eval (.Name x px) env) tInt i) (hl : (apos.endLine == pos.line) = true := by rfl) :
    Has prog w A D s (eval (.Call (.Attribute (.Name x px) "bit_length" apos) [] [] pos) env) tInt (Builtin.Int.intBits i) := fun s' k l => by
  refine wpAny_Call_method0_late rfl hl (wpAny_mono (he s' k l) (fun v s₁ h => ?_) fun _ _ e => e)
  obtain ⟨k1, t, rfl⟩ := h
  refine ⟨"int", "int.bit_length", PySem.F.plainAttrs_int, PySem.F.slot_int_bit_length, PySem.F.type_int_bit_length, typeIs_int _ _ _, (fun _ e => nomatch e), callWith_method0 (env := env) ?_⟩
  exact PyProof.Rows.call_int_bit_length ⟨keeps_trans k1 (keeps_toks _ _), _, rfl⟩

/-- a name's truth: an int -/
theorem tst_int {x : Str} {i : Int} (he : Has prog w A D s (eval (.Name x px) env) tInt i) : Tst prog w A D s (.Name x px) env (i != 0) := fun s' k l =>
  isTrue_plain (wpAny_mono (he s' k l) (fun v s₁ h => by
    obtain ⟨k1, t, rfl⟩ := h
    exact PyProof.Rows.truthy_int ⟨k1, rfl⟩) fun _ _ e => e)

/-- len of a list of the frame's own -/
theorem has_own_len {x' : Str} {px' : Pos} {α : Type} {T : Ty α} {xs : List α} {p : Addr} (C : Cx g mg mb) (K : Kinds sc env) (X : Ex g s₀ D env s ρ) (a : Acc T D p s.heap xs) (he : Has prog w A D s (eval (.Name x' px') env) tVal (.ref p)) (hsz : xs.length ≤ 1000)
    (hk : sc.names.lookup ("len" : Str) = some .globalImplicit := by decide +kernel) : Has prog w A D s (eval (.Call (.Name "len" px) [.Name x' px'] [] pos) env) tInt xs.length :=
  hs_call (has_gl C K X hk C.B.len (by decide +kernel)) (.inl fun _ h => nomatch h) (hsl_cons he hsl_nil rfl) (fun s₁ vs k q => by
    obtain ⟨v, rfl, hv⟩ := q.one
    cases hv
    obtain ⟨vs, m, hg, hp⟩ := acc_keeps a k
    refine Hs.of fun s' Q k' l h => call_len_list (isList_of (keeps_get k' hg)) (by rw [List.size_toArray, hp.length]; omega) (h _ _ (keeps_toks _ _) ⟨s'.toks + 1, by rw [List.size_toArray, hp.length]⟩)) (nost1 rfl)

theorem ex_expr {e : Expr} {l rest : List Stmt} {Q : Flow → Shared → Prop} {E : Value → Shared → Prop} (h : wpAny (model prog w) A (eval e env) (fun v s' => match v with | .ref _ => False | _ => wpAny (model prog w) A (execs rest env) Q E s') E s) (hl : l = .Expr e pos :: rest := by rfl)
    (hi : interactive env = false) (hs : swapsWith e none pos.line env = pure false := by rfl) :
    wpAny (model prog w) A (execs l env) Q E s := ex_cons (wpAny_Expr h hi hs) hl
end

theorem and_shift (x k : Nat) : x &&& ((x / 2 ^ k) * 2 ^ k) = (x / 2 ^ k) * 2 ^ k := by
  rw [← Nat.shiftRight_eq_div_pow, ← Nat.shiftLeft_eq]
  apply Nat.eq_of_testBit_eq
  intro i
  rw [Nat.testBit_and, Nat.testBit_shiftLeft, Nat.testBit_shiftRight]
  by_cases h : k ≤ i
  · simp [h, Nat.add_sub_cancel' h]
  · simp [h]
theorem xor_low {x : Int} (h : 0 ≤ x) (k : Nat) : Builtin.bitXor x (x.fdiv (2 ^ k) * 2 ^ k) = x % 2 ^ k := by
  obtain ⟨n, rfl⟩ := Int.eq_ofNat_of_zero_le h
  have p2 : (2 : Int) ^ k = ((2 ^ k : Nat) : Int) := by push_cast; rfl
  have e : ((n : Int).fdiv (2 ^ k)) * 2 ^ k = ((n / 2 ^ k * 2 ^ k : Nat) : Int) := by
    rw [p2, Int.fdiv_eq_ediv_of_nonneg _ (Int.natCast_nonneg _)]
    push_cast; rfl
  rw [e, PyProof.Rows.bitXor_and]
  have a : Builtin.bitAnd (n : Int) ((n / 2 ^ k * 2 ^ k : Nat) : Int) = ((n / 2 ^ k * 2 ^ k : Nat) : Int) := by
    rw [PyProof.Rows.bitAnd_pp (Int.natCast_nonneg _) (Int.natCast_nonneg _)]
    rw [Int.toNat_natCast, Int.toNat_natCast, and_shift]
  have d := Nat.div_add_mod n (2 ^ k)
  rw [Nat.mul_comm] at d
  rw [a, p2, ← Int.natCast_emod]
  omega

-- a state with one object hidden
def hid (s : Shared) (p : Addr) : Shared := { s with heap := hideAll s.heap [p] }
theorem hid_get {s : Shared} {p b : Addr} {o : Obj} (e : s.heap.get? b = some o) (n : b ≠ p) : (hid s p).heap.get? b = some o := hideAll_get _ e (by simpa using n)
theorem hid_none {s : Shared} {p : Addr} : (hid s p).heap.get? p = none := hideAll_none _ (by simp)
theorem of_hid {s : Shared} {p b : Addr} {o : Obj} (e : (hid s p).heap.get? b = some o) : s.heap.get? b = some o := of_hideAll _ e
theorem keeps_hid {s : Shared} {p : Addr} : Keeps (hid s p) s := ⟨s.heap, s.toks, rfl, fun _ _ e => of_hid e⟩
theorem sub_hid {s : Shared} {p : Addr} {g : Heap} (x : Sub g s.heap) (n : g.get? p = none) : Sub g (hid s p).heap := fun b o e => hid_get (x b o e) fun q => by rw [q, n] at e; cases e
theorem stepI_hid {s s' : Shared} {p : Addr} (k : Keeps (hid s p) s') : StepI [p] s s' := by
  obtain ⟨h, t, rfl, hk⟩ := k
  exact ⟨h, t, rfl, fun b o nb e => hk b o (hid_get e fun q => nb (q ▸ .head _))⟩
theorem stepI_trans {I : List Addr} {a b c : Shared} (x : StepI I a b) (y : StepI I b c) : StepI I a c := by
  obtain ⟨h, t, rfl, hk⟩ := x
  obtain ⟨h', t', rfl, hk'⟩ := y
  exact ⟨h', t', rfl, fun b o nb e => hk' b o nb (hk b o nb e)⟩
theorem stepI_keeps {I : List Addr} {a b : Shared} (k : Keeps a b) : StepI I a b := by
  obtain ⟨h, t, rfl, hk⟩ := k
  exact ⟨h, t, rfl, fun b o _ e => hk b o e⟩

section
variable {prog : Program} {w : World} {A : Around} {D : Addr → Prop} {s s₁ s₀ : Shared} {g : Heap} {env : Env} {ρ : Rho}

/-- another frame has turned a list of this one's own -/
theorem Ex.stepOwn {p : Addr} {o o' : Obj} (X : Ex g s₀ D env s ρ) (st : StepI [p] s s₁) (dp : D p) (np : s₀.heap.get? p = none) (ho : s.heap.get? p = some o) (fo : Firm o) (ho' : s₁.heap.get? p = some o') (hL : p ≠ env.locals) : Ex g s₀ D env s₁ ρ := by
  have keep : ∀ {b : Addr} {ob : Obj}, b ≠ p → s.heap.get? b = some ob → s₁.heap.get? b = some ob := fun n e => stepI_get st (by simpa using n) e
  have hle : Le D s.heap s₁.heap := fun b ob nd _ e => keep (fun q => nd (q ▸ dp)) e
  have hcell : ∀ {c : Addr} {v : Option Value}, s.heap.IsCell c v → s₁.heap.IsCell c v := fun {c v} hc => by
    obtain ⟨o2, e2, d2⟩ := hc
    refine ⟨o2, keep (fun q => ?_) e2, d2⟩
    rw [q, ho] at e2; cases e2
    unfold Firm at fo; rw [d2] at fo; exact fo
  have hns : ∀ {m : Str → Option Value}, s.heap.Ns env.locals m → s₁.heap.Ns env.locals m := fun {m} h => by
    obtain ⟨o2, es, ep, e, d, r⟩ := h
    exact ⟨o2, es, ep, keep (Ne.symm hL) e, d, r⟩
  obtain ⟨hS, hK, hLv, F⟩ := X
  refine ⟨hS, ?_, fun b d => ?_, ⟨F.kind, let ⟨m, hn⟩ := F.ns; ⟨m, hns hn⟩, F.newL, F.volL, fun x c e => let ⟨v, hv⟩ := F.cells x c e; ⟨v, hcell hv⟩, F.apart, F.cellOk, F.glob, fun x e h => ?_⟩⟩
  · obtain ⟨h0, t0, rfl, hk0⟩ := hK
    obtain ⟨h1, t1, rfl, hk1⟩ := st
    exact ⟨h1, t1, rfl, fun b ob e => hk1 b ob (by simpa using fun q : b = p => by rw [q, np] at e; cases e) (hk0 b ob e)⟩
  · by_cases hb : b = p
    · exact ⟨o', hb ▸ ho'⟩
    · obtain ⟨ob, e⟩ := hLv b d
      exact ⟨ob, keep hb e⟩
  · obtain ⟨v, hn, ht⟩ := F.names x e h
    refine ⟨v, ?_, e.T.mono hle ht⟩
    rcases hn with ⟨q, m, hn, hm⟩ | ⟨q, c, hc, hv⟩
    · exact .inl ⟨q, m, hns hn, hm⟩
    · exact .inr ⟨q, c, hc, hcell hv⟩
theorem acc_int {D D' : Addr → Prop} {p : Addr} {h : Heap} {ds : List Int} (a : Acc tInt D p h ds) : Acc tInt D' p h ds := a
end
end Mine

end
section
set_option maxRecDepth 100000
open PySem PySem.W PyProof.Rows PySem.Calls
namespace Mine
section
variable {prog : Program} {w : World} {A : Around} {D : Addr → Prop} {s s₁ s₀ : Shared} {g : Heap} {env : Env} {ρ : Rho} {mg mb : Str → Option Value} {sc : Scope} {px pos : Pos}

theorem swaps_no {elt : Expr} {gens : List Comprehension} {scope : Scope} {pos py : Pos} {y : Str} {line : Nat} (K : Kinds sc env) (hk : sc.names.lookup y = some .cell) : swapsWith (.ListComp elt gens scope pos) (some (.Name y py)) line env = pure false := by
  unfold swapsWith
  dsimp only
  rw [K.kd hk (by decide)]
  have e : (NameKind.cell == NameKind.local) = false := rfl
  simp [e]

/-- two clauses, assigned to a local -/
theorem ex_comp2 {scope : Scope} (K : Kinds sc env) (hbk : env.blockKind = .function) {yy : Str} {py spos : Pos} {elt it0 it1 : Expr} {n m : Str} {pn pm : Pos} {ifs : List Expr} {α α' β : Type} {T : Ty α} {T' : Ty α'} {U : Ty β} {xs : List α} (ys : α → List α') (p : α → α' → Bool) (f : α → α' → β) {Q : Flow → Shared → Prop} {E : Value → Shared → Prop}
    (X : Ex g s₀ D env s ρ) (hi : Iters prog w A D s it0 env T (.Name n pn) xs)
    (hsz : (xs.flatMap fun x => ((ys x).filter (p x)).map (f x)).length ≤ 9000) (hsz' : ∀ x ∈ xs, (ys x).length ≤ 1000)
    (hi1 : ∀ x ∈ xs, ∀ env' s' D' s₁, Keeps s s' → Kinds scope env' → Ex g s' D' env' s₁ (upd (pick (freeOf scope) ρ) n ⟨T, x⟩) → Iters prog w A D' s₁ it1 env' T' (.Name m pm) (ys x))
    (ht : ∀ x ∈ xs, ∀ y ∈ ys x, ∀ env' s' D' s₁, Keeps s s' → Kinds scope env' → Ex g s' D' env' s₁ (upd (upd (pick (freeOf scope) ρ) n ⟨T, x⟩) m ⟨T', y⟩) → Tests prog w A D' s₁ ifs env' (p x y))
    (he : ∀ x ∈ xs, ∀ y ∈ ys x, p x y = true → ∀ env' s' D' s₁, Keeps s s' → Kinds scope env' → Ex g s' D' env' s₁ (upd (upd (pick (freeOf scope) ρ) n ⟨T, x⟩) m ⟨T', y⟩) → Has prog w A D' s₁ (eval elt env') U (f x y))
    (h : ∀ s', Ex g s₀ D env s' (upd ρ yy ⟨tList U, xs.flatMap fun x => ((ys x).filter (p x)).map (f x)⟩) → Others D env s s' → Q .next s')
    (hfree : ∀ x ∈ freeOf scope, sc.names.lookup x = some .cell ∨ sc.names.lookup x = some .free := by decide +kernel) (hk : scope.kind = .function := by rfl)
    (hln : ∀ x ∈ scope.names, x.2 = .local → scope.names.lookup x.1 = some .local := by decide +kernel)
    (hp : ∀ z ∈ freeOf scope, scope.names.lookup z = some .free ∧ (z, NameKind.cell) ∉ scope.names ∧ (z == ("__classdict__" : Str)) = false := by decide +kernel)
    (hn : scope.names.lookup n = some .local ∨ scope.names.lookup n = some .cell := by decide +kernel) (hfl : (freeOf scope).contains n = false := by decide +kernel)
    (hm : scope.names.lookup m = some .local ∨ scope.names.lookup m = some .cell := by decide +kernel) (hfm : (freeOf scope).contains m = false := by decide +kernel) (hnm : n ≠ m := by decide +kernel)
    (hy : sc.names.lookup yy = some .local := by decide +kernel) (hline : (py.line == pos.line) = true := by rfl) (hno : (scope.names.any fun (n, k) => n == yy && (k == .local || k == .cell)) = false := by decide +kernel)
    (hs : ∀ x, foldedSetIterable it0 env x = pure x := by intro _; rfl) (hs1 : ∀ env' x, foldedSetIterable it1 env' x = pure x := by intro _ _; rfl) :
    wpAny (model prog w) A (exec (.Assign [.Name yy py] (.ListComp elt [⟨.Name n pn, it0, [], 0⟩, ⟨.Name m pm, it1, ifs, 0⟩] scope pos) spos) env) Q E s :=
  ex_assign_comp X (own_local K hy) hi (compScope_mk K hfree hk hln hp) (fun x => upd_keep hfl) hsz (fun s' cl C X' D' k ci => ⟨inner _ it1 (.ref X') (compEnvC scope cl C env), fun it => turns_outer, asg_name (own_comp ci hn), fun x hx s₁ acc hE ac hl => by
    have key : ∀ l : List α', (l.flatMap fun y => if p x y then [f x y] else []) = (l.filter (p x)).map (f x) := flatMap_filter (p x) (f x)
    rw [← key]
    refine inner_ok hE ac ci.ne ci.dX ci.nX (hi1 x hx _ s' D' s₁ k kinds_comp hE) (asg_name (own_comp ci hm)) (fun y z e q => ?_) (by have := hsz' x hx; omega) (fun y hy s₂ E => ht x hx y hy _ s' D' s₂ k kinds_comp E) (fun y hy hp s₂ E => he x hx y hy hp _ s' D' s₂ k kinds_comp E) (hs1 _)
    show (if z = m then _ else upd (pick (freeOf scope) ρ) n ⟨T, x⟩ z) = some e
    split
    · rename_i hz
      subst hz
      unfold upd at q
      rw [if_neg (Ne.symm hnm)] at q
      unfold pick at q
      rw [hfm] at q
      cases q
    · exact q⟩) h (swaps_yes K hbk hy hline hno) hs

-- tests of many
theorem tst_orC {x y : Expr} {rest : List Expr} {a b : Bool} (hx : Tst prog w A D s x env a) (hr : a = false → Tst prog w A D s (.BoolOp .Or (y :: rest) pos) env b) : Tst prog w A D s (.BoolOp .Or (x :: y :: rest) pos) env (a || b) := fun s' k l => by
  show wpAny _ A (do
    match BoolOp.Or, ← isTrue x env (eval x env) with
    | .And, false => pure false
    | .Or, true => pure true
    | _, _ => allTrue .Or (y :: rest) env) _ _ s'
  refine wpAny_bind (wpAny_mono (hx s' k l) (fun r s₁ z => ?_) fun _ _ e => e)
  obtain ⟨z1, rfl⟩ := z
  cases r with
  | true => exact wpAny_pure ⟨z1, rfl⟩
  | false => exact wpAny_mono (hr rfl s₁ (keeps_trans k z1) (live_keeps l z1)) (fun _ _ q => ⟨keeps_trans z1 q.1, q.2⟩) fun _ _ e => e
theorem tst_or1 {x : Expr} {a : Bool} (hx : Tst prog w A D s x env a) : Tst prog w A D s (.BoolOp .Or [x] pos) env a := fun s' k l => by
  show wpAny _ A (do
    match BoolOp.Or, ← isTrue x env (eval x env) with
    | .And, false => pure false
    | .Or, true => pure true
    | _, _ => allTrue .Or [] env) _ _ s'
  refine wpAny_bind (wpAny_mono (hx s' k l) (fun r s₁ z => ?_) fun _ _ e => e)
  obtain ⟨z1, rfl⟩ := z
  cases r with
  | true => exact wpAny_pure ⟨z1, rfl⟩
  | false => exact wpAny_pure ⟨z1, rfl⟩
theorem tst_bool {x : Str} {b : Bool} (he : Has prog w A D s (eval (.Name x px) env) tBool b) : Tst prog w A D s (.Name x px) env b := fun s' k l =>
  isTrue_plain (wpAny_mono (he s' k l) (fun v s₁ h => by
    obtain ⟨k1, rfl⟩ := h
    exact wpAny_truthy_bool ⟨k1, rfl⟩) fun _ _ e => e)
theorem has_gt {l r : Expr} {x y : Int} (ha : Has prog w A D s (eval l env) tInt x) (hb : Has prog w A D s (eval r env) tInt y) (hm : behindInMarks .Gt r = false := by with_unfolding_all rfl) : Has prog w A D s (eval (.Compare l [.Gt] [r] pos) env) tBool (decide (x > y)) := hs_cmp ha hb (fun _ _ _ _ hu hv => cmp_gt hu hv) hm
theorem has_lt {l r : Expr} {x y : Int} (ha : Has prog w A D s (eval l env) tInt x) (hb : Has prog w A D s (eval r env) tInt y) (hm : behindInMarks .Lt r = false := by with_unfolding_all rfl) : Has prog w A D s (eval (.Compare l [.Lt] [r] pos) env) tBool (decide (x < y)) := hs_cmp ha hb (fun _ _ _ _ hu hv => cmp_lt hu hv) hm
theorem tst_neb {l r : Expr} {x y : Bool} (ha : Has prog w A D s (eval l env) tBool x) (hb : Has prog w A D s (eval r env) tBool y) (hm : behindInMarks .NotEq r = false := by with_unfolding_all rfl) : Tst prog w A D s (.Compare l [.NotEq] [r] pos) env (x != y) := tst_cmp ha hb (fun _ _ _ _ hu hv => cmp_neb hu hv) hm

/-- two lists put together -/
theorem bin_addlist {α : Type} {T : Ty α} {xs ys : List α} {u v : Value} (hu : (tList T).is D s.heap u xs) (hv : (tList T).is D s.heap v ys) (hsz : xs.length + ys.length ≤ 1000) : Has prog w A D s (binaryOp .Add u v) (tList T) (xs ++ ys) := by
  obtain ⟨p, n, vs, rfl, hd, hg, hp⟩ := hu
  obtain ⟨q, m, us, rfl, hd', hg', hp'⟩ := hv
  refine Hs.of fun s' Q k l h => ?_
  have hz : (List.toArray vs).size + (List.toArray us).size ≤ sizeLine := by
    rw [List.size_toArray, List.size_toArray, hp.length, hp'.length, sizeLine_eq]; omega
  refine P.add_list (keeps_get k hg) (keeps_get k hg') (h _ _ (keeps_push _ _) ⟨_, 0, vs ++ us, rfl, live_fresh l, by rw [Heap.get?_push_size _ rfl]; simp, ?_⟩) hz
  have kk := keeps_trans k (keeps_push s' { cls := .type "list", data := .seq (vs.toArray ++ us.toArray) })
  exact paired_append (paired_mono (fun _ _ => T.mono (keeps_le kk D)) hp) (paired_mono (fun _ _ => T.mono (keeps_le kk D)) hp')

/-- u[:e], u at hand -/
theorem wp_upto {value e : Expr} {p : Pos} {α : Type} {T : Ty α} {xs : List α} {n : Int} {u : Value} {Q : Value → Shared → Prop} {E : Value → Shared → Prop} (L : Live D s.heap) (hu : (tList T).is D s.heap u xs) (hb : Has prog w A D s (eval e env) tInt n) (h0 : 0 ≤ n) (hx : xs.length ≤ 1000)
    (q : ∀ v s', Keeps s s' → (tList T).is D s'.heap v (xs.take n.toNat) → Q v s') :
    wpAny (model prog w) A (eval (.Slice none (some e) none p) env) (fun i s₂ => wpAny (model prog w) A (subscriptTail value (.Slice none (some e) none p) u i) Q E s₂) E s := by
  refine wpAny_Slice (wpAny_evalPart_none (wpAny_evalPart_some (hb.use L fun v s₂ kb hv => ?_)))
  refine wpAny_evalPart_none ?_
  obtain ⟨qq, m, vs, rfl, hd, hg, hp⟩ := hu
  obtain ⟨t, rfl⟩ := hv
  have kk := keeps_trans kb (keeps_push s₂ { cls := .type "slice", data := .fields #[.none, .int n t, .none] })
  have hg' := keeps_get kk hg
  refine tail_any (isList_of hg').typeIs slot_list_getitem.lookup (wpAny_getItem_list_slice (isList_of hg') (Heap.IsSliceOf.new _ _ _ _) .none (.int n t) .none (by decide) ?_ (by rw [List.size_toArray, hp.length, sizeLine_eq]; omega)) rfl
  have e : slicePick vs.toArray none (some n) none = (vs.take n.toNat).toArray := by
    have := slicePick_upto' vs.toArray n.toNat
    rw [show ((n.toNat : Nat) : Int) = n by omega] at this
    simpa using this
  have k3 := keeps_trans kk (keeps_push { s₂ with heap := s₂.heap.push { cls := .type "slice", data := .fields #[.none, .int n t, .none] } } (lstObj (vs.take n.toNat).toArray 0))
  rw [e]
  exact q _ _ k3 ⟨_, 0, _, rfl, live_fresh (live_keeps L kk), Heap.get?_push_size _ rfl, paired_mono (fun _ _ => T.mono (keeps_le k3 D)) (paired_take hp _)⟩

/-- a table grown by a callee -/
theorem Ex.tab {P : Addr} {ps : Array Value} (X : Ex g s₀ D env s ρ) (st : StepI [P] s s₁) (hP : s.heap.get? P = some (tabObj ps)) (h0 : s₀.heap.get? P = none) (nP : ¬ D P) : Ex g s₀ D env s₁ ρ ∧ Oth env s s₁ := by
  refine X.stepI ⟨fun a m => ?_, fun a m => ?_, fun a m => ?_⟩ st <;> (rw [List.mem_singleton] at m; subst m)
  · exact h0
  · exact nP
  · exact ⟨_, _, hP, rfl⟩
end
end Mine

end
section
set_option maxRecDepth 100000
open PySem PySem.W PyProof.Rows PySem.Calls
namespace Mine
theorem no_keys : typeLookup (.type "list") "keys" = pure none := by rw [typeLookup_type, builtinLookup_eq_fast]; kernel_rfl

/-- a list has no «keys» -/
theorem getAttr_nokeys {prog : Program} {w : World} {A : Around} {E : Value → Shared → Prop} {s : Shared} {a : Addr} {xs : Array Value} {k : Nat} {Q : Option Value → Shared → Prop} (hx : s.heap.get? a = some (lstObj xs k)) (hA : A.handled = none)
    (h : ∀ h' tk e, Heap.NewExcOf s.heap h' e "AttributeError" → Q none { s with heap := h', toks := tk }) : wpAny (model prog w) A (getAttr? (.ref a) "keys") Q E s := by
  obtain ⟨hp, g, d, tk, os⟩ := s
  have hT : ∀ tk', (⟨hp, g, d, tk', os⟩ : Shared).TypeIs (.ref a) "list" := fun _ => ⟨_, hx, rfl⟩
  have f1 := sub_AttributeError
  have f3 := F.slot_list_getattribute.lookup
  have f4 := F.slot_list_getattribute.bind (.ref a)
  have f5 := am_list_getattr_none
  unfold getAttr? getAttrBy? getAttrBy
  repeat (any_goals (first | assumption | exact hT _ | ((with_reducible show wpAny _ _ (call (Value.builtin "list.__getattribute__") _ _) _ _ _); refine call_meets F.slot_list_getattribute (hT _) am_entry_list_getattribute (F.args_list_getattribute_2 _ _) (meets_getattribute_miss_list a xs k _ _ _ no_keys (by decide +kernel) (by size_fits)) ⟨hx, hA, fun h' tk' e hx' => ?_⟩) | wp_step))
  obtain ⟨t', u', he⟩ := hx'.there
  show wpAny _ _ (getattributeRaised _ _ _ _ _ _ _) _ _ _
  unfold getattributeRaised
  repeat (any_goals (first | assumption | wp_step))
  exact h _ _ _ hx'.of
end Mine

end
section
set_option maxRecDepth 100000
open PySem PySem.W PyProof.Rows PySem.Calls
namespace Mine
theorem plain_dul : plainId "dict.update.loop" = true := by decide +kernel
theorem entry_dul : entryFor table "dict.update.loop" = some Builtin.«dict.update.loop» := entryFor_of_fast (by kernel_rfl)
def addKey (ks : List Int) (k : Int) : List Int := if ks.contains k then ks else ks ++ [k]
theorem stored_keys (kvs : List (Int × Value)) (k : Int) (v : Value) : (stored kvs k v).map (·.1) = addKey (kvs.map (·.1)) k := by
  unfold stored addKey
  have e : (kvs.any fun kv => decide (kv.1 = k)) = (kvs.map (·.1)).contains k := by
    rw [Bool.eq_iff_iff, List.any_eq_true, List.contains_iff_mem, List.mem_map]
    simp
  simp only [e]
  split
  · rw [List.map_map]
    refine List.map_congr_left fun kv _ => ?_
    dsimp only [Function.comp]
    split <;> simp_all
  · simp
theorem addKey_len (ks : List Int) (k : Int) : (addKey ks k).length ≤ ks.length + 1 := by
  unfold addKey; split <;> simp

section
variable {prog : Program} {w : World} {A : Around} {E : Value → Shared → Prop}
theorem dict_loop {p it d : Addr} {vs : List Value} {n : Nat} {xs : List (Int × Int)} {R : Result → Shared → Prop} (hh : A.handled = none) (h1 : d ≠ it) (h2 : d ≠ p) (hv : vs.length ≤ 1000) : ∀ (m i : Nat) (s : Shared) (kvs : List (Int × Value)), vs.length - i = m → i ≤ vs.length → s.heap.IsListIter it p i →
    s.heap.get? p = some (lstObj vs.toArray n) → Paired ((tPair tInt tInt).is (fun b => b = d) s.heap) vs xs → s.heap.DictOf (intKind prog w) d kvs → kvs.length ≤ i →
    (∀ s' kvs', StepI [d, it] s s' → s'.heap.DictOf (intKind prog w) d kvs' → kvs'.map (·.1) = ((xs.drop i).map (·.1)).foldl addKey (kvs.map (·.1)) → R (.ok (.ret .none)) s') →
    codeAny (model prog w) A (.builtin "dict.update.loop" ⟨[.ref d, .ref it, rawInt i, .none], []⟩) R s := by
  intro m
  induction m with
  | zero =>
    intro i s kvs hm hi hit hp hps hd hk hR
    have hx : xs.drop i = [] := List.drop_eq_nil_of_le (by rw [← hps.length]; omega)
    refine codeAny_builtin entry_dul ?_
    rw [Around.under_plainId plain_dul _]
    show wpAny _ A.in1 (pyNext (.ref it) >>= _) _ _ s
    refine wpAny_bind (wpAny_pyNext_list_end hh hit (isList_of hp) (by simp; omega) fun h' hs => ?_)
    have hd' : h'.DictOf (intKind prog w) d kvs := by
      obtain ⟨o, es, ep, ho, r⟩ := hd
      exact ⟨o, es, ep, hs _ _ h1 ho, r⟩
    refine wpAny_bind (wpAny_pure (wpAny_pure (hR _ kvs ?_ hd' (by rw [hx]; rfl))))
    exact stepI_ext hs (.tail _ (.head _))
  | succ m ih =>
    intro i s kvs hm hi hit hp hps hd hk hR
    have hlt : i < vs.length := by omega
    have hlx : i < xs.length := by rw [← hps.length]; exact hlt
    obtain ⟨u, hu, hu'⟩ := paired_get hps i xs[i] (by simp [hlx])
    refine codeAny_builtin entry_dul ?_
    rw [Around.under_plainId plain_dul _]
    show wpAny _ A.in1 (pyNext (.ref it) >>= _) _ _ s
    refine wpAny_bind (wpAny_pyNext_list_item hit (isList_of hp) (x := u) (by simpa using hu) fun h' hit' hs => ?_)
    have hpit : p ≠ it := by
      rintro rfl
      obtain ⟨o, ho, _, hd'⟩ := hit
      rw [hp] at ho; cases ho; cases hd'
    have hle : Le (fun b => b = d) s.heap h' := le_of_sameBut hs (.inr fun o e f => by
      obtain ⟨o', ho', _, hd'⟩ := hit
      rw [e] at ho'; cases ho'
      unfold Firm at f; rw [hd'] at f; exact f)
    have hu2 := (tPair tInt tInt).mono hle hu'
    obtain ⟨t, c, a, b, rfl, htd, hg, ⟨ta, rfl⟩, ⟨tb, rfl⟩⟩ := hu2
    have hd' : h'.DictOf (intKind prog w) d kvs := by
      obtain ⟨o, es, ep, ho, r⟩ := hd
      exact ⟨o, es, ep, (hs.2 _ h1).trans ho, r⟩
    have hT : (⟨h', s.gens, s.drawn, s.toks, s.os⟩ : Shared).TypeIs (.ref t) "tuple" := ⟨_, hg, rfl⟩
    show wpAny _ A.in1 (holding [.ref t] _ >>= _) _ _ _
    refine wpAny_bind (wpAny_holding (wpAny_bind (wpAny_tryCatch ?_)))
    unfold Builtin.Dict.pairItems
    refine wpAny_bind (wpAny_typeOf hT ?_)
    rw [if_pos (by decide)]
    refine wpAny_bind (wpAny_seqItems hg rfl (wpAny_pure ?_))
    show wpAny _ A.in1 (holding _ (dictSet d _ _)) _ _ _
    refine wpAny_holding (wpAny_dictSet_pairs (knd := intKind prog w) (k := xs[i].1) ?_ hd' (fun h2' hd2 hs2 => ?_) (by rw [sizeLine_eq]; omega))
    · show (xs[i].1 == xs[i].1) = true
      exact beq_self_eq_true _
    · have hp2 : h2'.get? p = some (lstObj vs.toArray n) := (hs2.2 p (Ne.symm h2)).trans ((hs.2 p hpit).trans hp)
      have hle2 : Le (fun b => b = d) h' h2' := le_of_sameBut hs2 (.inl rfl)
      have hit2 : h2'.IsListIter it p (i + 1) := by
        obtain ⟨o, ho, r⟩ := hit'
        exact ⟨o, (hs2.2 it (Ne.symm h1)).trans ho, r⟩
      refine wpAny_pure ⟨plainId_quiet plain_dul _, ih (i + 1) _ (stored kvs xs[i].1 (.int xs[i].2 tb)) (by omega) (by omega) hit2 hp2 (paired_mono (fun _ _ q => (tPair tInt tInt).mono hle2 ((tPair tInt tInt).mono hle q)) hps) hd2 ?_ fun s' kvs' st hd3 hk3 => ?_⟩
      · have := congrArg List.length (stored_keys kvs xs[i].1 (.int xs[i].2 tb))
        rw [List.length_map] at this
        rw [this]
        exact Nat.le_trans (addKey_len _ _) (by rw [List.length_map]; omega)
      · refine hR s' kvs' ?_ hd3 ?_
        · refine stepI_trans (stepI_trans (stepI_same (tk := s.toks) hs (.tail _ (.head _))) (stepI_same (tk := s.toks + 1) hs2 (.head _))) st
        · rw [hk3, stored_keys, List.drop_eq_getElem_cons hlx]
          rfl
end
end Mine

end
section
set_option maxRecDepth 100000
open PySem PySem.W PyProof.Rows PySem.Calls
namespace Mine
def sortL (ks : List Int) : List Int := ks.mergeSort (fun a b => decide (a ≤ b))
theorem sortL_perm (ks : List Int) : (sortL ks).Perm ks := List.mergeSort_perm _ _
theorem sortL_is {ks ns : List Int} (p : ns.Perm ks) (h : ns.Pairwise (· ≤ ·)) : ns = sortL ks := by
  have h2 : (sortL ks).Pairwise (· ≤ ·) := by
    have := List.pairwise_mergeSort (le := fun a b : Int => decide (a ≤ b)) (fun a b c h1 h2 => by simp at *; omega) (fun a b => by simp; omega) ks
    exact this.imp fun h => by simpa using h
  exact List.Perm.eq_of_pairwise (fun a b _ _ h1 h2 => Int.le_antisymm h1 h2) h h2 (p.trans (sortL_perm ks).symm)

section
variable {prog : Program} {w : World} {A : Around} {E : Value → Shared → Prop} {s : Shared}

/-- dict(a list of pairs) -/
theorem call_dict_pairs {l : Addr} {vs : List Value} {n : Nat} {xs : List (Int × Int)} {Q : Value → Shared → Prop} (hh : A.handled = none) (hl : s.heap.get? l = some (lstObj vs.toArray n)) (hp : Paired ((tPair tInt tInt).is (fun _ => False) s.heap) vs xs) (hv : vs.length ≤ 1000)
    (h : ∀ s' kvs, Keeps s s' → s'.heap.DictOf (intKind prog w) s.heap.objs.size kvs → kvs.map (·.1) = (xs.map (·.1)).foldl addKey [] → Q (.ref s.heap.objs.size) s') : wpAny (model prog w) A (call (.type "dict") [.ref l]) Q E s := by
  refine callType_codes (Q₁ := fun obj s₁ => obj = .ref s.heap.objs.size ∧ s₁ = { s with heap := s.heap.push { cls := .type "dict", data := .dict #[] } }) F.kt_called_dict (F.kt_typeCall_dict_1 _) F.entry_dict_init (kt_code_dict_new _ ⟨rfl, rfl⟩) ?_
  rintro obj s₁ ⟨rfl, rfl⟩
  have hnew : (s.heap.push { cls := .type "dict", data := .dict #[] }).DictOf (intKind prog w) s.heap.objs.size [] := Heap.DictOf.new s.heap
  have hl' : (s.heap.push { cls := .type "dict", data := .dict #[] }).get? l = some (lstObj vs.toArray n) := Heap.get?_push_of_some _ hl
  have hdl : s.heap.objs.size ≠ l := fun e => absurd (Heap.lt_size hl) (by rw [e]; exact Nat.lt_irrefl _)
  have hT : ({ s with heap := s.heap.push { cls := .type "dict", data := .dict #[] } } : Shared).TypeIs (.ref l) "list" := ⟨_, hl', rfl⟩
  have hp1 : Paired ((tPair tInt tInt).is (fun b => b = s.heap.objs.size) s.heap) vs xs := paired_mono (fun _ _ q => (tPair tInt tInt).wide (fun a o e q => absurd (Heap.lt_size e) (by rw [q]; exact Nat.lt_irrefl _)) q) hp
  refine ⟨hnew.typeIs, F.args_dict_init_2 _ _, ?_⟩
  unfold Builtin.«dict.__init__»
  refine wpAny_bind ?_
  unfold Builtin.Dict.selfAndRest
  refine wpAny_bind (wpAny_notOrdered_dict hnew.typeIs ?_)
  show wpAny _ _ (pure (s.heap.objs.size, [Value.ref l])) _ _ _
  refine wpAny_pure ?_
  show wpAny _ _ (Builtin.Dict.updateFrom "dict.__init__" s.heap.objs.size (.ref l) [] .none) _ _ _
  unfold Builtin.Dict.updateFrom
  refine wpAny_bind (wpAny_typeOf hT ?_)
  rw [if_pos (by decide)]
  refine wpAny_bind (getAttr_nokeys hl' hh fun h1 tk e hx => ?_)
  rw [if_pos (by rfl)]
  refine wpAny_bind (wpAny_rule ?_)
  have hl1 := hx.keeps _ _ hl'
  refine wpAny_bind (wpAny_pyIter_list (isList_of hl1) ?_)
  have k1 : Keeps { s with heap := s.heap.push { cls := .type "dict", data := .dict #[] } } ⟨h1.push { cls := .type "list_iterator", data := .fields #[.ref l, .int 0 0] }, s.gens, s.drawn, tk, s.os⟩ := ⟨_, tk, rfl, fun b o e => Heap.get?_push_of_some _ (hx.keeps _ _ e)⟩
  have hitne : s.heap.objs.size ≠ h1.objs.size := by
    obtain ⟨o, es, ep, ho, _⟩ := hnew
    exact fun e => absurd (Heap.lt_size (hx.keeps _ _ ho)) (by rw [e]; exact Nat.lt_irrefl _)
  refine wpAny_pure ⟨plainId_quiet plain_dul _, dict_loop (p := l) (it := h1.objs.size) (d := s.heap.objs.size) (xs := xs) (n := n) (vs := vs) (by exact hh) hitne hdl hv vs.length 0 _ [] rfl (Nat.zero_le _) ⟨_, Heap.get?_push_size _ rfl, rfl, rfl⟩
    (keeps_get k1 hl') (paired_mono (fun _ _ q => (tPair tInt tInt).mono (keeps_le k1 _) ((tPair tInt tInt).mono (keeps_le (keeps_push s _) _) q)) hp1) ?_ (Nat.le_refl _) fun s' kvs st hd hk => ?_⟩
  · obtain ⟨o, es, ep, ho, r⟩ := hnew
    exact ⟨o, es, ep, keeps_get k1 ho, r⟩
  · refine ⟨rfl, h s' kvs ?_ hd (by simpa using hk)⟩
    obtain ⟨h3, t3, rfl, hk3⟩ := st
    refine ⟨h3, t3, rfl, fun b o e => hk3 b o ?_ (keeps_get k1 (Heap.get?_push_of_some _ e))⟩
    intro m
    have := Heap.lt_size e
    rcases List.mem_cons.mp m with e1 | m
    · rw [e1] at this; exact Nat.lt_irrefl _ this
    · rcases List.mem_cons.mp m with rfl | m
      · obtain ⟨o2, es, ep, ho, _⟩ := hnew
        have := Heap.lt_size (hx.keeps _ _ (Heap.get?_push_of_some { cls := .type "dict", data := .dict #[] } e))
        exact Nat.lt_irrefl _ this
      · cases m

/-- the keys of a dict, as a list -/
theorem collect_dict {d : Addr} {kvs : List (Int × Value)} {Q : List Value → Shared → Prop} (hh : A.handled = none) (hd : (d == sysModules) = false) (hm : s.heap.DictOf (intKind prog w) d kvs) (hsz : kvs.length ≤ 1000)
    (h : ∀ s' vs, Keeps s s' → IntsAre vs (kvs.map (·.1)) → Q vs s') : wpAny (model prog w) A (collect (.ref d)) Q E s := by
  unfold collect
  refine wpAny_bind (wpAny_runValue (codeAny_builtin F.entry_proto_collect ?_))
  rw [Around.under_plainId F.plain_proto_collect _]
  show wpAny _ A.in1 (newList [] >>= fun l => again (.builtin "list.__iadd__" ⟨[l, .ref d], []⟩)) _ _ s
  refine wpAny_bind (wpAny_newObj_type ?_)
  refine wpAny_pure ⟨plainId_quiet F.plain_list_iadd _, codeAny_builtin F.entry_list_iadd ?_⟩
  rw [Around.under_plainId F.plain_list_iadd _]
  have hd1 : (s.heap.push { cls := .type "list", data := .seq ([] : List Value).toArray }).DictOf (intKind prog w) d kvs := hm.push _
  have hT : ({ s with heap := s.heap.push { cls := .type "list", data := .seq ([] : List Value).toArray } } : Shared).TypeIs (.ref d) "dict" := hd1.typeIs
  have hlt : d < s.heap.objs.size := by
    obtain ⟨o, es, ep, ho, _⟩ := hm
    exact Heap.lt_size ho
  show wpAny _ A.in1 (Builtin.List.listExtendWith (.ref s.heap.objs.size) (.ref d) (.ref s.heap.objs.size)) _ _ _
  unfold Builtin.List.listExtendWith
  refine wpAny_bind (wpAny_typeOf hT ?_)
  have h1 : Builtin.List.listSameRef (.ref s.heap.objs.size) (.ref d) = false := by unfold Builtin.List.listSameRef; exact beq_false_of_ne (fun e => Nat.lt_irrefl _ (e ▸ hlt))
  have h2 : (Value.type "dict" == Value.type "list") = false := by decide
  have h3 : (Value.type "dict" == Value.type "tuple") = false := by decide
  simp only [h1, h2, h3, Bool.or_false, Bool.false_eq_true, if_false]
  obtain ⟨ep, hd2⟩ := hd1.dictAt
  refine wpAny_bind (wpAny_pyIter_dict hd hd2 ?_)
  refine wpAny_bind (wpAny_holding ?_)
  unfold Builtin.List.listLengthHint
  have hT2 := fun (o : Obj) => (show (⟨(s.heap.push { cls := .type "list", data := .seq ([] : List Value).toArray }).push o, s.gens, s.drawn, s.toks, s.os⟩ : Shared).TypeIs (.ref d) "dict" from (hd1.push o).typeIs)
  refine wpAny_bind (wpAny_specialOf (hT2 _) F.slot_dict_len.lookup ?_)
  dsimp only
  rw [show splitId "dict.__len__" = some ("dict", "__len__") by decide +kernel]
  dsimp only
  refine wpAny_bind (wpAny_isInstance (hT2 _) isSubtype_dict_dict ?_)
  rw [if_neg (by simp)]
  rw [if_pos (by decide +kernel)]
  refine wpAny_bind (wpAny_typeOf (hT2 _) ?_)
  refine wpAny_pure ?_
  rw [if_pos (by decide +kernel)]
  refine wpAny_bind (wpAny_rule ?_)
  have hS₁ : ((s.heap.push { cls := .type "list", data := .seq ([] : List Value).toArray }).push { cls := .type "dict_keyiterator", data := .fields #[.ref d, .int 0 0, .int kvs.length 0, .int ep 0] }).get? s.heap.objs.size = some { cls := .type "list", data := .seq ([] : List Value).toArray } := Heap.get?_push_of_some _ (Heap.get?_push_size _ rfl)
  refine wpAny_bind ?_
  show wpAny _ A.in1 (updateSeq s.heap.objs.size (·.push .none) >>= fun _ => updateSeq s.heap.objs.size (·.pop)) _ _ _
  refine wpAny_bind (wpAny_updateSeq hS₁ rfl ?_)
  have hS₂ := Heap.get?_update_self (Obj.mapSeq (·.push Value.none)) hS₁ rfl
  refine wpAny_updateSeq hS₂ rfl ?_
  have hS₃ := Heap.get?_update_self (Obj.mapSeq (·.pop)) hS₂ rfl
  generalize hH : (((s.heap.push { cls := .type "list", data := .seq ([] : List Value).toArray }).push { cls := .type "dict_keyiterator", data := .fields #[.ref d, .int 0 0, .int kvs.length 0, .int ep 0] }).update s.heap.objs.size (Obj.mapSeq (·.push Value.none))).update s.heap.objs.size (Obj.mapSeq (·.pop)) = H at hS₃
  have oth : ∀ b o, b ≠ s.heap.objs.size → ((s.heap.push { cls := .type "list", data := .seq ([] : List Value).toArray }).push { cls := .type "dict_keyiterator", data := .fields #[.ref d, .int 0 0, .int kvs.length 0, .int ep 0] }).get? b = some o → H.get? b = some o :=
    fun b o hb e => by rw [← hH]; exact (Heap.get?_update_other _ _ (Ne.symm hb)).trans ((Heap.get?_update_other _ _ (Ne.symm hb)).trans e)
  have hsz1 : (s.heap.push { cls := .type "list", data := .seq ([] : List Value).toArray }).objs.size = s.heap.objs.size + 1 := Heap.size_push _ _
  have hSf : s.heap.objs.size ∉ [s.heap.objs.size + 1, d] := fun m => by
    rcases List.mem_cons.mp m with e | m
    · exact Nat.ne_of_lt (Nat.lt_succ_self _) e
    · rcases List.mem_cons.mp m with e | m
      · exact Nat.lt_irrefl _ (e ▸ hlt)
      · cases m
  have W : WalksS prog w A.in1 (s.heap.objs.size + 1) _ _ _ _ _ _ := (Walks.dictKeys (prog := prog) (w := w) (knd := intKind prog w) (A := A.in1) (by exact hh) (s.heap.objs.size + 1) d (Nat.ne_of_lt (Nat.lt_succ_of_lt hlt)) kvs ep).toS
  refine wpAny_pure ⟨plainId_quiet F.plain_extend_loop _, ?_⟩
  show codeAny _ _ (.builtin "list.extend.loop" ⟨[.ref s.heap.objs.size, .ref (s.heap.push { cls := .type "list", data := .seq ([] : List Value).toArray }).objs.size, .ref s.heap.objs.size], []⟩) _ _
  rw [hsz1]
  refine codeAny_extend_loopS W (by rw [sizeLine_eq]; omega) s.heap.objs.size hSf _ kvs.length 0 _ _ _ rfl (Nat.zero_le _) ?_ hS₃ (ItemsOf.nil _) fun s' acc' c' hm' hS' hacc => ?_
  · show H.IsKeyIter (s.heap.objs.size + 1) d 0 kvs.length ep ∧ H.DictAt (intKind prog w) d kvs ep
    have e : ((s.heap.push { cls := .type "list", data := .seq ([] : List Value).toArray }).push { cls := .type "dict_keyiterator", data := .fields #[.ref d, .int 0 0, .int kvs.length 0, .int ep 0] }).get? (s.heap.objs.size + 1) = some { cls := .type "dict_keyiterator", data := .fields #[.ref d, .int 0 0, .int kvs.length 0, .int ep 0] } := by
      rw [← hsz1]; exact Heap.get?_push_size _ rfl
    exact ⟨⟨_, oth _ _ (fun q => Nat.ne_of_lt (Nat.lt_succ_self _) q.symm) e, rfl, rfl⟩, (hd2.push _).at' fun o e => oth _ _ (fun q => Nat.lt_irrefl _ (q ▸ hlt)) e⟩
  · have acc := hacc
    show wpAny _ A (load s.heap.objs.size >>= _) _ _ s'
    refine wpAny_bind (wpAny_load hS' ?_)
    refine wpAny_pure (h s' acc'.toList ?_ ?_)
    · obtain ⟨m1, m2, m3, m4, m5⟩ := hm'
      obtain ⟨hp', g', d', t', os'⟩ := s'
      cases m2; cases m3; cases m4
      refine ⟨hp', t', rfl, fun b o e => ?_⟩
      have lt := Heap.lt_size e
      refine m1 b o (fun m => ?_) (oth b o (fun q => Nat.lt_irrefl _ (q ▸ lt)) (Heap.get?_push_of_some _ (Heap.get?_push_of_some _ e)))
      rcases List.mem_cons.mp m with q | m
      · exact Nat.lt_irrefl _ (q ▸ lt)
      · rcases List.mem_cons.mp m with q | m
        · exact Nat.lt_irrefl _ (Nat.lt_trans (Nat.lt_succ_self _) (q ▸ lt))
        · cases m
    · obtain ⟨a1, a2⟩ := hacc
      have key : ∀ (vs : List Value) (ks : List Int), vs.length = ks.length → (∀ (j : Nat) (v : Value), vs[j]? = some v → ∃ (k : Int) (t : Tok), ks[j]? = some k ∧ v = Value.int k t) → IntsAre vs ks := by
        intro vs
        induction vs with
        | nil => intro ks e _; cases ks with | nil => exact .nil | cons => cases e
        | cons v vs ih =>
          intro ks e q
          cases ks with
          | nil => cases e
          | cons k ks =>
            obtain ⟨k', t, e1, rfl⟩ := q 0 v rfl
            cases e1
            exact .cons _ _ (ih ks (Nat.succ.inj e) fun j v hv => q (j + 1) v hv)
      refine key _ _ (by rw [Array.length_toList, a1, List.length_map]) fun j v hv => ?_
      obtain ⟨k, x, e1, e2⟩ := a2 j v (by simpa using hv)
      obtain ⟨t, rfl⟩ := Value.isInt_shape e2
      exact ⟨k, t, by rw [List.getElem?_map, e1]; rfl, rfl⟩

/-- sorted(a dict) -/
theorem sorted_dict {d : Addr} {kvs : List (Int × Value)} {Q : Value → Shared → Prop} (hh : A.handled = none) (hd : (d == sysModules) = false) (hm : s.heap.DictOf (intKind prog w) d kvs) (hsz : kvs.length ≤ 60)
    (h : ∀ s' vs p n, Keeps s s' → s.heap.get? p = none → s'.heap.get? p = some (lstObj (List.toArray vs) n) → IntsAre vs (sortL (kvs.map (·.1))) → Q (.ref p) s') : wpAny (model prog w) A (call (.builtin "sorted") [.ref d]) Q E s := by
  refine Calls.call_function_entry kind_sorted plain_sorted entry_sorted (args_sorted1 _) ?_
  unfold Builtin.«sorted»
  refine wpAny_bind (m := checkCount "sorted" 1 1 _) (wpAny_pure ?_)
  refine wpAny_bind (collect_dict (by exact hh) hd hm (by omega) fun s' vs k hI => ?_)
  refine wpAny_bind (wpAny_newList ?_)
  have hoL : (s'.heap.push (seqObj "list" vs.toArray 0)).get? s'.heap.objs.size = some (seqObj "list" vs.toArray 0) := Heap.get?_push_size _ rfl
  have hl := hI.length
  rw [List.length_map] at hl
  refine wpAny_bind (wpAny_holding (wpAny_call_entry slot_list_sort ⟨_, hoL, rfl⟩ entry_list_sort (list_sort_tree hoL hI (by omega) fun out ns' a1 a2 a3 => ⟨_, rfl, ?_⟩) (args_list_sort _)))
  obtain ⟨e, he⟩ := sortedHeap_at (out := out) hoL
  refine wpAny_pure ⟨_, rfl, h _ out.toList _ e ?_ (none_of_keeps k) (by simpa using he) ?_⟩
  · refine keeps_trans k ⟨_, s'.toks, rfl, fun b o q => ?_⟩
    have lt := Heap.lt_size q
    rw [sortedHeap_old (Nat.ne_of_lt lt) (Nat.lt_trans lt (by rw [Heap.size_push]; exact Nat.lt_succ_self _))]
    exact Heap.get?_push_of_some _ q
  · rw [← sortL_is a2 a3]
    exact a1
end
end Mine

end
section
set_option maxRecDepth 100000
open PySem PySem.W PyProof.Rows PySem.Calls
namespace Mine
section
variable {prog : Program} {w : World} {A : Around} {E : Value → Shared → Prop} {s : Shared}

theorem sliceApplied_back {sl : Addr} {u : Tok} {Q : Int × Int × Nat → Shared → Prop} (hs : s.heap.IsSliceOf sl .none .none (.int (-1) u)) (h : Q ((1 : Int), (-1 : Int), 2) s) :
    wpAny (model prog w) A (Builtin.Slice.sliceApplied (.ref sl) (pure (2 : Int))) Q E s := by
  obtain ⟨os, hos, hcs, hds⟩ := id hs
  unfold Builtin.Slice.sliceApplied Builtin.Slice.sliceFields
  refine wpAny_bind (wpAny_bind (wpAny_field hos hds (x := .none) rfl (wpAny_bind (wpAny_field hos hds (x := .none) rfl (wpAny_bind (wpAny_field hos hds (x := .int (-1) u) rfl (wpAny_pure ?_)))))))
  refine wpAny_bind (slicePart_int ?_)
  show wpAny _ _ (if ((-1 : Int) == 0) = true then _ else _) _ _ s
  rw [if_neg (by decide)]
  refine wpAny_bind (slicePart_none (wpAny_bind (slicePart_none (wpAny_bind (wpAny_pure ?_)))))
  exact wpAny_pure h

theorem getItem_tuple_rev {t sl : Addr} {a b : Value} {n : Nat} {u : Tok} {Q : Value → Shared → Prop} (ht : s.heap.get? t = some (tupObj #[a, b] n)) (hs : s.heap.IsSliceOf sl .none .none (.int (-1) u))
    (h : Q (.ref s.heap.objs.size) { s with heap := s.heap.push (tupObj #[b, a] 0) }) : wpAny (model prog w) A (getItem (.ref t) (.ref sl)) Q E s := by
  have hT : IsTup s.heap t #[a, b] := ⟨_, ht, rfl, n, rfl⟩
  obtain ⟨os, hos, hcs, hds⟩ := id hs
  have hTs : s.TypeIs (.ref sl) "slice" := ⟨os, hos, hcs⟩
  unfold getItem
  try with_reducible refine wpAny_holding ?_
  first | refine wpAny_bind (wpAny_pure ?_) | skip
  refine wpAny_bind (wpAny_sequenceKey hT.typeIs (by decide) ?_)
  refine wpAny_bind (wpAny_callSpecial?_slot (name := Str.ofString "__getitem__") hT.typeIs slot_tuple_getitem
    (wpAny_call_entry slot_tuple_getitem hT.typeIs entry_tuple_getitem ?_ (args_tuple_getitem _ _)))
  show wpAny _ _ (Builtin.Tuple.tupleItemsOf (.ref t) >>= _) _ _ s
  refine wpAny_bind (tupleItemsOf_ hT ?_)
  refine wpAny_bind (wpAny_typeOf hTs ?_)
  rw [if_pos (by decide)]
  show wpAny _ _ (Builtin.Slice.sliceApplied (.ref sl) (pure (2 : Int)) >>= _) _ _ s
  refine wpAny_bind (sliceApplied_back hs ?_)
  show wpAny _ _ (if ((1 : Int) == 0 && (-1 : Int) == 1 && (2 : Nat) == 2) = true then _ else _) _ _ s
  rw [if_neg (by decide)]
  have hsz : sizeOk (.seq (((List.range 2).filterMap fun (k : Nat) => (#[a, b] : Array Value)[((1 : Int) + (k : Int) * -1).toNat]?).toArray)) := by
    show (((List.range 2).filterMap fun (k : Nat) => (#[a, b] : Array Value)[((1 : Int) + (k : Int) * -1).toNat]?).toArray).size ≤ sizeLine
    rw [sizeLine_eq, List.size_toArray]
    exact Nat.le_trans (List.length_filterMap_le _ _) (by simp)
  have h' : Q (.ref s.heap.objs.size) { s with heap := s.heap.push (tupObj (((List.range 2).filterMap fun (k : Nat) => (#[a, b] : Array Value)[((1 : Int) + (k : Int) * -1).toNat]?).toArray) 0) } := h
  first
    | exact wpAny_bind (m := Builtin.Tuple.tupleExact _) (wpAny_newObj_type (wpAny_pure ⟨_, rfl, wpAny_pure h'⟩) hsz)
    | exact wpAny_bind (m := Builtin.Tuple.tupleExact _) (wpAny_newObj_type (wpAny_bind (wpAny_pure (wpAny_pure ⟨_, rfl, wpAny_pure h'⟩))) hsz)
    | exact wpAny_bind (wpAny_bind (m := Builtin.Tuple.tupleExact _) (wpAny_newObj_type (wpAny_pure (wpAny_pure ⟨_, rfl, wpAny_pure h'⟩)) hsz))
    | exact wpAny_bind (wpAny_bind (m := Builtin.Tuple.tupleExact _) (wpAny_newObj_type (wpAny_pure ⟨_, rfl, wpAny_pure h'⟩) hsz))
end

section
variable {prog : Program} {w : World} {A : Around} {D : Addr → Prop} {s s₁ s₀ : Shared} {g : Heap} {env : Env} {ρ : Rho} {mg mb : Str → Option Value} {px pos : Pos}
/-- p[::-1], p a pair -/
theorem has_rev {value e : Expr} {p : Pos} {α β : Type} {T : Ty α} {U : Ty β} {x : α × β} (ha : Has prog w A D s (eval value env) (tPair T U) x) (hb : Has prog w A D s (eval e env) tInt (-1)) :
    Has prog w A D s (eval (.Subscript value (.Slice none none (some e) p) pos) env) (tPair U T) (x.2, x.1) := fun s' k L =>
  Subscript_ (wpAny_mono (ha s' k L) (fun u s₁ a => by
    refine wpAny_Slice (wpAny_evalPart_none (wpAny_evalPart_none (wpAny_evalPart_some (wpAny_mono (hb s₁ (keeps_trans k a.1) (live_keeps L a.1)) (fun v s₂ b => ?_) fun _ _ e => e))))
    obtain ⟨ka, q, m, y, z, rfl, hd, hg, hy, hz⟩ := a
    obtain ⟨kb, t, rfl⟩ := b
    have kk := keeps_trans kb (keeps_push s₂ { cls := .type "slice", data := .fields #[.none, .none, .int (-1) t] })
    have hg' := keeps_get kk hg
    have k3 := keeps_trans kk (keeps_push { s₂ with heap := s₂.heap.push { cls := .type "slice", data := .fields #[.none, .none, .int (-1) t] } } (tupObj #[z, y] 0))
    refine tail_any (T := "tuple") ⟨_, hg', rfl⟩ slot_tuple_getitem.lookup (getItem_tuple_rev hg' (Heap.IsSliceOf.new _ _ _ _) ?_) rfl
    exact ⟨keeps_trans ka k3, _, 0, _, _, rfl, live_fresh (live_keeps L (keeps_trans ka kk)), Heap.get?_push_size _ rfl, U.mono (keeps_le k3 D) hz, T.mono (keeps_le k3 D) hy⟩) fun _ _ e => e)

/-- a dict with int keys, in order -/
def tDict (prog : Program) (w : World) : Ty (List Int) where
  is D h v ks := ∃ d kvs, v = .ref d ∧ ¬ D d ∧ 1 < d ∧ h.DictOf (intKind prog w) d kvs ∧ kvs.map (·.1) = ks
  mono := fun k ⟨d, kvs, e, n, b, ⟨o, es, ep, ho, hx, hd, r⟩, q⟩ => ⟨d, kvs, e, n, b, ⟨o, es, ep, k _ _ n (by unfold Firm; rw [hd]; trivial) ho, hx, hd, r⟩, q⟩
  wide := fun k ⟨d, kvs, e, n, b, m, q⟩ => ⟨d, kvs, e, fun z => n (let ⟨_, _, _, ho, _⟩ := m; k _ _ ho z), b, m, q⟩

variable {sc : Scope} (C : Cx g mg mb) (K : Kinds sc env) (X : Ex g s₀ D env s ρ)
include C K X
theorem e_dict {e : Expr} {xs : List (Int × Int)} (hh : A.handled = none) (he : Has prog w A D s (eval e env) (tList (tPair tInt tInt)) xs) (hsz : xs.length ≤ 60) (hk : sc.names.lookup ("dict" : Str) = some .globalImplicit := by decide +kernel) (hst : isStarred e = false := by rfl) :
    Has prog w A D s (eval (.Call (.Name "dict" px) [e] [] pos) env) (tDict prog w) ((xs.map (·.1)).foldl addKey []) :=
  hs_call (has_gl C K X hk C.B.dict (by decide +kernel)) (.inl fun _ h => nomatch h) (hsl_cons he hsl_nil (st1 hst)) (fun s₁ vs k a => by
    obtain ⟨v, rfl, p, n, us, rfl, hd, hg, hq⟩ := a.one
    intro s₂ k₂ l₂
    have hq2 := paired_mono (fun _ _ q => (tPair tInt tInt).wide (D' := fun _ => False) (fun _ _ _ z => z.elim) ((tPair tInt tInt).mono (keeps_le k₂ D) q)) hq
    refine call_dict_pairs hh (keeps_get k₂ hg) hq2 (by rw [hq.length]; omega) fun s' kvs k₃ hm hks => ⟨k₃, _, kvs, rfl, live_fresh l₂, ?_, hm, hks⟩
    have := size_big C (X.up (keeps_trans k k₂))
    exact this) (nost1 hst)
theorem e_sorted {e : Expr} {ks : List Int} (hh : A.handled = none) (he : Has prog w A D s (eval e env) (tDict prog w) ks) (hsz : ks.length ≤ 60) (hk : sc.names.lookup ("sorted" : Str) = some .globalImplicit := by decide +kernel) (hst : isStarred e = false := by rfl) :
    Has prog w A D s (eval (.Call (.Name "sorted" px) [e] [] pos) env) (tList tInt) (sortL ks) :=
  hs_call (has_gl C K X hk C.B.sorted (by decide +kernel)) (.inl fun _ h => nomatch h) (hsl_cons he hsl_nil (st1 hst)) (fun s₁ vs k a => by
    obtain ⟨v, rfl, d, kvs, rfl, hd, big, hm, hq⟩ := a.one
    subst hq
    intro s₂ k₂ l₂
    have lo : (d == sysModules) = false := by
      have : ¬ d = sysModules := fun e => by rw [e] at big; exact absurd big (by decide)
      simpa using this
    have hm2 : s₂.heap.DictOf (intKind prog w) d kvs := let ⟨o, es, ep, ho, r⟩ := hm; ⟨o, es, ep, keeps_get k₂ ho, r⟩
    rw [List.length_map] at hsz
    refine sorted_dict hh lo hm2 hsz fun s' us p n k₃ hp hg hI => ⟨k₃, p, n, us, rfl, live_none l₂ hp, hg, intsAre_to hI⟩) (nost1 hst)
end
end Mine

end
section
set_option maxRecDepth 100000
open PySem PySem.W PyProof.Rows PySem.Calls
namespace Mine
section
variable {prog : Program} {w : World} {A : Around} {D : Addr → Prop} {s s₁ s₀ : Shared} {g : Heap} {env : Env} {ρ : Rho} {mg mb : Str → Option Value} {px pos : Pos}

open Classical in
/-- «not in» a list of the frame's own -/
theorem tst_own_notin {f : Str} {l : Expr} {α : Type} [DecidableEq α] {T : Ty α} (hT : EqOk T) {x : α} {xs : List α} {p : Addr} (hr : A.units ≤ 9000) (a : Acc T D p s.heap xs) (hl : Has prog w A D s (eval l env) T x) (hf : Has prog w A D s (eval (.Name f px) env) tVal (.ref p))
    (hm : behindInMarks .NotIn (.Name f px) = false := by with_unfolding_all rfl) : Tst prog w A D s (.Compare l [.NotIn] [.Name f px] pos) env (!xs.any fun y => decide (y = x)) :=
  tst_cmp hl hf (fun s₁ u v k hu hv => by
    cases hv
    obtain ⟨vs, n, hg, hp⟩ := acc_keeps a k
    refine Hs.of fun s' Q k' l h => ?_
    have hp' := paired_mono (fun _ _ => T.mono (keeps_le k' D)) hp
    refine SeqAt.notIn_listAt (fun y => decide (T.is D s'.heap y x)) (isList_of (keeps_get k' hg)) (items_at (A := A.in1) hT (by show A.units + 1 ≤ 9500; omega) hp' (T.mono (keeps_le k' D) hu)) ?_
    rw [List.any_toArray, any_items hT hp']
    exact h _ _ (keeps_refl _) rfl) hm

/-- a loop over a list of the frame's own, that may grow -/
theorem ex_for_own {nn x : Str} {pn : Pos} {body : List Stmt} {α : Type} {U : Ty α} {p : Addr} {xs : List α} {Q : Flow → Shared → Prop} {E : Value → Shared → Prop} (hh : A.handled = none) (X : Ex g s₀ D env s ρ) (hx : ρ x = some ⟨tVal, .ref p⟩) (on : Own s₀ env nn) (acc : Acc U D p s.heap xs) (hL : p ≠ env.locals)
    (Inv : List α → Nat → Rho → Prop) (μ : List α → Nat → Nat) (i0 : Inv xs 0 ρ)
    (turn : ∀ ys i y ρ₁ s₂, Inv ys i ρ₁ → ys[i]? = some y → Ex g s₀ D env s₂ (upd ρ₁ nn ⟨U, y⟩) → Acc U D p s₂.heap ys → Calm D s s₂ → wpAny (model prog w) A (execs body env) (fun f s₃ => match f with
      | .next | .cont => ∃ ys' ρ₃, Ex g s₀ D env s₃ ρ₃ ∧ Inv ys' (i + 1) ρ₃ ∧ Acc U D p s₃.heap ys' ∧ μ ys' (i + 1) < μ ys i ∧ Calm D s₂ s₃
      | _ => False) NE s₂)
    (done : ∀ ys i ρ₁ s₂, Inv ys i ρ₁ → ys.length ≤ i → Ex g s₀ D env s₂ ρ₁ → Acc U D p s₂.heap ys → Calm D s s₂ → Q .next s₂)
    (hd : (x == ("__debug__" : Str)) = false := by decide) : wpAny (model prog w) A (exec (.For (.Name nn pn) (.Name x px) body [] pos) env) Q E s := by
  refine wpAny_For (wpAny_mono ((has_name X hx hd) s (keeps_refl s) X.live) (fun v s₁ h => ?_) fun _ _ e => e.elim) (fun _ => by rfl)
  obtain ⟨k01, rfl⟩ := h
  obtain ⟨vs0, m0, hg0, hp0⟩ := acc_keeps acc k01
  refine wpAny_pyIter_list (isList_of hg0) ?_
  have kp := keeps_push s₁ { cls := .type "list_iterator", data := .fields #[.ref p, .int 0 0] }
  have k02 := keeps_trans k01 kp
  have itn : s.heap.get? s₁.heap.objs.size = none := none_of_keeps k01
  have newI : ∀ a ∈ [s₁.heap.objs.size], s₀.heap.get? a = none := fun a m => by
    rw [List.mem_singleton.mp m]; exact keeps_none X.kp itn
  have apI : ∀ a ∈ [s₁.heap.objs.size], ¬ D a := fun a m => by
    rw [List.mem_singleton.mp m]; exact live_none X.live itn
  have step_calm : ∀ {s₃ s₄ : Shared}, Calm D s s₃ → StepI [s₁.heap.objs.size] s₃ s₄ → Calm D s s₄ := fun c st =>
    ⟨fun b o n f e => stepI_get st (fun m => by rw [List.mem_singleton.mp m, itn] at e; cases e) (c.le b o n f e), fun a o vs e d => stepI_get st (fun m => by rw [List.mem_singleton.mp m, itn] at e; cases e) (c.fields a o vs e d)⟩
  have le_of : ∀ {s₁ s₂ : Shared}, Oth env s₁ s₂ → Le D s₁.heap s₂.heap := fun o b ob nd f e => o b ob e (fun q => nd (q ▸ X.fm.volL)) f
  refine codeAny_forLoop_any (fun n s₃ => ∃ ys i ρ₃, μ ys i = n ∧ Ex g s₀ D env s₃ ρ₃ ∧ Inv ys i ρ₃ ∧ Acc U D p s₃.heap ys ∧ s₃.heap.IsListIter s₁.heap.objs.size p i ∧ Calm D s s₃) (fun n s₃ hI => ?_) (μ xs 0)
    ⟨xs, 0, ρ, rfl, X.up k02, i0, acc_keeps acc k02, ⟨_, Heap.get?_push_size _ rfl, rfl, rfl⟩, .keeps k02⟩
  obtain ⟨ys, i, ρ₃, hn, X₃, hInv, a₃, hit, c₃⟩ := hI
  refine noted_ne (E := E) ?_
  obtain ⟨vs, m, hg, hp⟩ := id a₃
  have here : ∀ a ∈ [s₁.heap.objs.size], ∃ o vs, s₃.heap.get? a = some o ∧ o.data = .fields vs := fun a m => by
    rw [List.mem_singleton.mp m]
    obtain ⟨o, e, _, d⟩ := hit
    exact ⟨o, _, e, d⟩
  by_cases hi : i < ys.length
  · obtain ⟨u, hu, hu'⟩ := paired_get hp i ys[i] (by simp [hi])
    refine wpAny_mono (wpAny_pyNext_list_item (E := NE) (Q := fun r s₄ => ∃ v, r = some v ∧ wpAny (model prog w) A (letOwnedTupleGo (.Name nn pn) (.ref s₁.heap.objs.size) v) (fun _ s₄ => wpAny (model prog w) A (assign (.Name nn pn) env v) (fun _ s₅ => wpAny (model prog w) A (execs body env) (fun f s₆ => match f with
          | .next | .cont => ∃ m, m < n ∧ ∃ ys i ρ₃, μ ys i = m ∧ Ex g s₀ D env s₆ ρ₃ ∧ Inv ys i ρ₃ ∧ Acc U D p s₆.heap ys ∧ s₆.heap.IsListIter s₁.heap.objs.size p i ∧ Calm D s s₆
          | .brk => Q .next s₆
          | .ret v => Q (.ret v) s₆) NE s₅) NE s₄) NE s₄) hit (isList_of hg) (x := u) (by simpa using hu) fun h' hit' hs => ⟨u, rfl, ?_⟩) (fun r s₄ h => ?_) fun _ _ e => e
    · have hst : StepI [s₁.heap.objs.size] s₃ { s₃ with heap := h' } := stepI_same hs (.head _)
      obtain ⟨X₄, o₄⟩ := X₃.stepI ⟨newI, apI, here⟩ hst
      have le₄ := le_of o₄
      obtain ⟨o2, ho2, hc2, hd2⟩ := id hit'
      refine letOwned_list ho2 hc2 hd2 (by decide) (wpAny_assign_Name (X₄.store on (U.mono le₄ hu') fun s₅ X₅ o₅ => ?_))
      have a₅ : Acc U D p s₅.heap ys := acc_oth (acc_oth a₃ o₄ le₄ hL) (oth_others o₅) o₅.calm.le hL
      refine wpAny_mono (turn ys i ys[i] ρ₃ s₅ hInv (by simp [hi]) X₅ a₅ ((step_calm c₃ hst).trans o₅.calm)) (fun f s₆ h => ?_) fun _ _ e => e
      have fin : (∃ ys' ρ₃, Ex g s₀ D env s₆ ρ₃ ∧ Inv ys' (i + 1) ρ₃ ∧ Acc U D p s₆.heap ys' ∧ μ ys' (i + 1) < μ ys i ∧ Calm D s₅ s₆) → ∃ m, m < n ∧ ∃ ys i ρ₃, μ ys i = m ∧ Ex g s₀ D env s₆ ρ₃ ∧ Inv ys i ρ₃ ∧ Acc U D p s₆.heap ys ∧ s₆.heap.IsListIter s₁.heap.objs.size p i ∧ Calm D s s₆ := fun ⟨ys', ρ', X₆, i₆, a₆, l₆, c₆⟩ =>
        ⟨μ ys' (i + 1), hn ▸ l₆, ys', i + 1, ρ', rfl, X₆, i₆, a₆, ⟨o2, c₆.fields _ _ _ (o₅.calm.fields _ _ _ ho2 hd2) hd2, hc2, hd2⟩, ((step_calm c₃ hst).trans o₅.calm).trans c₆⟩
      cases f with
      | next => exact fin h
      | cont => exact fin h
      | brk => exact h.elim
      | ret v => exact h.elim
    · obtain ⟨v, rfl, h⟩ := h
      refine noted_ne (E := E) (wpAny_mono h (fun _ s₅ h => noted_ne (E := E) (wpAny_mono h (fun _ s₆ h => noted_ne (E := E) (wpAny_mono h (fun f s₇ h => ?_) fun _ _ e => e)) fun _ _ e => e)) fun _ _ e => e)
      cases f <;> exact h
  · refine wpAny_mono (wpAny_pyNext_list_end (E := NE) (Q := fun r s₄ => r = none ∧ Q .next s₄) hh hit (isList_of hg) (by simp; rw [hp.length]; omega) fun h' hs => ⟨rfl, ?_⟩) (fun r s₄ h => ?_) fun _ _ e => e
    · have hst : StepI [s₁.heap.objs.size] s₃ { s₃ with heap := h' } := stepI_ext hs (.head _)
      obtain ⟨X₄, o₄⟩ := X₃.stepI ⟨newI, apI, here⟩ hst
      exact done ys i ρ₃ _ hInv (by omega) X₄ (acc_oth a₃ o₄ (le_of o₄) hL) (step_calm c₃ hst)
    · obtain ⟨rfl, h⟩ := h
      exact wpAny_execs_nil h

/-- x.extend(e), x of the frame's own -/
theorem ex_extend {x : Str} {apos spos : Pos} {e : Expr} {α : Type} {U : Ty α} {p : Addr} {xs ys : List α} {Q : Flow → Shared → Prop} {E : Value → Shared → Prop} (X : Ex g s₀ D env s ρ) (hx : ρ x = some ⟨tVal, .ref p⟩) (acc : Acc U D p s.heap xs) (dp : D p) (np : s₀.heap.get? p = none) (hL : p ≠ env.locals)
    (he : Has prog w A D s (eval e env) (tList U) ys) (hsz : xs.length + ys.length ≤ 1000)
    (h : ∀ s', Ex g s₀ D env s' ρ → Acc U D p s'.heap (xs ++ ys) → Calm D s s' → Q .next s')
    (hi : interactive env = false) (htr : backTo pos (starEach [e] env) = [(false, eval e env)] := by rfl) (hl : (apos.endLine == pos.line) = true := by rfl) (hd : (x == ("__debug__" : Str)) = false := by decide) (hs : swapsWith (.Call (.Attribute (.Name x px) "extend" apos) [e] [] pos) none spos.line env = pure false := by rfl) :
    wpAny (model prog w) A (exec (.Expr (.Call (.Attribute (.Name x px) "extend" apos) [e] [] pos) spos) env) Q E s := by
  refine wpAny_Expr ?_ hi hs
  refine wpAny_Call_method1_late rfl hl htr (wpAny_mono ((has_name X hx hd) s (keeps_refl s) X.live) (fun v s₁ h1 => ?_) fun _ _ e => e.elim)
  obtain ⟨k01, rfl⟩ := h1
  obtain ⟨vs0, m0, hg0, hp0⟩ := acc_keeps acc k01
  refine ⟨"list", "list.extend", PySem.F.plainAttrs_list, PySem.F.slot_list_extend, PySem.F.type_list_extend, ⟨_, hg0, rfl⟩, fun c q => ?_, ?_⟩
  · cases q; exact ⟨_, hg0, rfl⟩
  have htr' : starEach [e] env = (false, eval e env) :: starEach [] env := by
    cases e <;> first | rfl | cases htr
  show wpAny _ A (callWith pos (.builtin "list.extend") [.ref p] [(false, eval e env)] []) _ _ _
  rw [← htr]
  refine callWith_method1 (wpAny_mono ((hsl_cons (he.up k01) hsl_nil htr') s₁ (keeps_refl _) (live_keeps X.live k01)) (fun us s₂ h2 => ?_) fun _ _ e => e.elim) htr'
  obtain ⟨k12, ar⟩ := h2
  obtain ⟨v, rfl, q, m, ws, rfl, nd, hgq, hpq⟩ := ar.one
  have kk := keeps_trans k01 k12
  have hg2 := keeps_get k12 hg0
  have hp2 := paired_mono (fun _ _ z => U.mono (keeps_le k12 D) z) hp0
  have l1 := hp0.length
  have l2 := hpq.length
  refine call_meets F.slot_list_extend ⟨_, hg2, rfl⟩ F.entry_list_extend (F.args_list_extend_2 _ _) (AutoSeq1.list_extend_list_list_0 p vs0.toArray m0 q ws.toArray m ?_ ?_ ?_) ⟨hg2, hgq, ?_⟩
  · intro q
    rw [Bool.and_eq_true] at q
    have q2 := q.2
    unfold Builtin.List.listTooLong at q2
    rw [List.size_toArray, List.size_toArray, sizeLine_eq, decide_eq_true_eq] at q2
    omega
  · rw [List.size_toArray, sizeLine_eq]; omega
  · rw [List.size_toArray, List.size_toArray, sizeLine_eq]; omega
  · have hs2 : Heap.SameBut p s₂.heap (s₂.heap.update p (Obj.mapSeq fun x => x ++ ws.toArray)) := Heap.SameBut.update ..
    have hl' := Heap.get?_update_self (Obj.mapSeq fun x => x ++ ws.toArray) hg2 rfl
    obtain ⟨X', c'⟩ := (X.up kk).mut (tk := s₂.toks) hs2 dp np hg2 (firm_lst _ _) hl' hL
    refine h _ X' ⟨vs0 ++ ws, _, by rw [← List.append_toArray]; exact hl', ?_⟩ ((Calm.keeps kk).trans c')
    exact paired_append (paired_mono (fun _ _ => U.mono c'.le) hp2) (paired_mono (fun _ _ => U.mono c'.le) hpq)

/-- x.append(e), x of the frame's own -/
theorem ex_append {x : Str} {apos spos : Pos} {e : Expr} {α : Type} {U : Ty α} {p : Addr} {xs : List α} {y : α} {Q : Flow → Shared → Prop} {E : Value → Shared → Prop} (X : Ex g s₀ D env s ρ) (hx : ρ x = some ⟨tVal, .ref p⟩) (acc : Acc U D p s.heap xs) (dp : D p) (np : s₀.heap.get? p = none) (hL : p ≠ env.locals)
    (he : Has prog w A D s (eval e env) U y) (hsz : xs.length ≤ 1000)
    (h : ∀ s', Ex g s₀ D env s' ρ → Acc U D p s'.heap (xs ++ [y]) → Calm D s s' → Q .next s')
    (hi : interactive env = false) (htr : backTo pos (starEach [e] env) = [(false, eval e env)] := by rfl) (hl : (apos.endLine == pos.line) = true := by rfl) (hd : (x == ("__debug__" : Str)) = false := by decide) (hs : swapsWith (.Call (.Attribute (.Name x px) "append" apos) [e] [] pos) none spos.line env = pure false := by rfl) :
    wpAny (model prog w) A (exec (.Expr (.Call (.Attribute (.Name x px) "append" apos) [e] [] pos) spos) env) Q E s := by
  refine wpAny_Expr ?_ hi hs
  refine wpAny_Call_method1_late rfl hl htr (wpAny_mono ((has_name X hx hd) s (keeps_refl s) X.live) (fun v s₁ h1 => ?_) fun _ _ e => e.elim)
  obtain ⟨k01, rfl⟩ := h1
  obtain ⟨vs0, m0, hg0, hp0⟩ := acc_keeps acc k01
  refine ⟨"list", "list.append", PySem.F.plainAttrs_list, slot_list_append, PySem.F.type_list_append, ⟨_, hg0, rfl⟩, fun c q => ?_, ?_⟩
  · cases q; exact ⟨_, hg0, rfl⟩
  have htr' : starEach [e] env = (false, eval e env) :: starEach [] env := by
    cases e <;> first | rfl | cases htr
  show wpAny _ A (callWith pos (.builtin "list.append") [.ref p] [(false, eval e env)] []) _ _ _
  rw [← htr]
  refine callWith_method1 (wpAny_mono ((hsl_cons (he.up k01) hsl_nil htr') s₁ (keeps_refl _) (live_keeps X.live k01)) (fun us s₂ h2 => ?_) fun _ _ e => e.elim) htr'
  obtain ⟨k12, ar⟩ := h2
  obtain ⟨v, rfl, hv⟩ := ar.one
  have kk := keeps_trans k01 k12
  have hg2 := keeps_get k12 hg0
  have hp2 := paired_mono (fun _ _ z => U.mono (keeps_le k12 D) z) hp0
  have l1 := hp0.length
  refine call_append hg2 (by rw [List.size_toArray]; omega) fun h' n' hl' hs2 => ?_
  obtain ⟨X', c'⟩ := (X.up kk).mut (tk := s₂.toks) hs2 dp np hg2 (firm_lst _ _) hl' hL
  refine h _ X' ⟨vs0 ++ [v], n', by rw [hl']; simp, ?_⟩ ((Calm.keeps kk).trans c')
  exact paired_append (paired_mono (fun _ _ => U.mono c'.le) hp2) (.cons (U.mono c'.le hv) .nil)
end
end Mine

end
section
set_option maxRecDepth 100000
open PySem PySem.W PyProof.Rows PySem.Calls
namespace Mine
section
variable {prog : Program} {w : World} {A : Around} {D : Addr → Prop} {s s₁ s₀ : Shared} {g : Heap} {env : Env} {ρ : Rho} {mg mb : Str → Option Value} {sc : Scope} {px pos : Pos}

theorem has_notnil {l r : Expr} {α β : Type} {T : Ty α} {U : Ty β} {xs : List α} (hu : A.units ≤ 9000) (ha : Has prog w A D s (eval l env) (tList T) xs) (hb : Has prog w A D s (eval r env) (tList U) []) (hm : behindInMarks .NotEq r = false := by with_unfolding_all rfl) : Has prog w A D s (eval (.Compare l [.NotEq] [r] pos) env) tBool (!xs.isEmpty) :=
  hs_cmp ha hb (fun _ _ _ _ h1 h2 => cmp_ne_nil (by omega) h1 h2) hm
theorem tst_has {e : Expr} {b : Bool} (he : Has prog w A D s (eval e env) tBool b) (hp : isTrue e env (eval e env) = (do let v ← eval e env; standAt e.pos; holding [v] (truthy v)) := by rfl) : Tst prog w A D s e env b := fun s' k l =>
  isTrue_plain (wpAny_mono (he s' k l) (fun v s₁ h => by
    obtain ⟨k1, rfl⟩ := h
    exact wpAny_truthy_bool ⟨k1, rfl⟩) fun _ _ e => e) hp
theorem tst_inI {l r : Expr} {x : Int} {xs : List Int} (hu : A.units ≤ 9000) (ha : Has prog w A D s (eval l env) tInt x) (hb : Has prog w A D s (eval r env) (tList tInt) xs) (hm : behindInMarks .In r = false := by with_unfolding_all rfl) :
    Tst prog w A D s (.Compare l [.In] [r] pos) env (xs.any fun y => decide (y = x)) := tst_cmp ha hb (fun _ _ _ _ h1 h2 => cmp_in eqOk_int hu h1 h2) hm
theorem tst_neE {l r : Expr} {x y : Int × Int} (hu : A.units ≤ 9000) (ha : Has prog w A D s (eval l env) tEdge x) (hb : Has prog w A D s (eval r env) tEdge y) (hm : behindInMarks .NotEq r = false := by with_unfolding_all rfl) :
    Tst prog w A D s (.Compare l [.NotEq] [r] pos) env (!decide (x = y)) := tst_cmp ha hb (fun _ _ _ _ h1 h2 => cmp_ne_edge (by omega) h1 h2) hm
theorem small_div {x y : Int} (hy : y.natAbs < 2 ^ 64) : Builtin.divisionGoesByPylong x y = false := by
  unfold Builtin.divisionGoesByPylong
  rw [Bool.and_eq_false_iff]
  refine .inl ?_
  rw [decide_eq_false_iff_not]
  dsimp only
  split
  · omega
  · rename_i h
    have : y.natAbs.log2 < 64 := (Nat.log2_lt (by simpa using h)).mpr hy
    omega

theorem swapped_pair {a b : Str} {pa pb p p' : Pos} {k k' : Nat} {e1 e2 : Expr} (K : Kinds sc env) (hb : env.blockKind = .function) (h1 : sc.names.lookup a = some .local) (h2 : sc.names.lookup b = some .local) (hab : (a == b) = false) (hl : (pb.line == pa.line) = true)
    (hst : ([e1, e2].any fun | .Starred .. => true | _ => false) = false) (hf : [e1, e2].all (foldedForSure 8) = false) (hc : [e1, e2].all (constantsAlone 8) = false) : swappedStores [.Tuple [.Name a pa, .Name b pb] k p] (.Tuple [e1, e2] k' p') env = pure (some [a, b]) := by
  have ka := K.kd h1 (by decide)
  have kb := K.kd h2 (by decide)
  have e : pb.line = pa.line := by simpa using hl
  have hn : (b == a) = false := by
    rw [beq_eq_false_iff_ne] at hab ⊢; exact fun q => hab q.symm
  have hnm : ∀ F : Expr → Option Str, F (.Name a pa) = some a → F (.Name b pb) = some b → ([Expr.Name a pa, Expr.Name b pb] : List Expr).filterMap F = [a, b] := fun F h1 h2 => by
    simp [List.filterMap_cons, h1, h2]
  unfold swappedStores
  dsimp only
  rw [hb, if_neg (by simp)]
  refine Eq.trans (if_neg (fun q => Bool.false_ne_true (hst.symm.trans q))) ?_
  rw [hnm _ (by show (if (env.kindOf a == some .local && pa.line == pa.line) = true then some a else none) = some a; rw [ka]; simp) (by show (if (env.kindOf b == some .local && pb.line == pa.line) = true then some b else none) = some b; rw [kb, e]; simp)]
  rw [if_neg (by simp [List.eraseDups, List.eraseDupsBy, List.eraseDupsBy.loop, hab, hn]), if_neg (by rw [hf]; simp), if_neg (by rw [hc]; simp)]
end
end Mine

end
section
set_option maxRecDepth 100000
open PySem PySem.W PyProof.Rows PySem.Calls
namespace Mine
section
variable {prog : Program} {w : World} {A : Around} {D : Addr → Prop} {s s₁ s₀ : Shared} {g : Heap} {env : Env} {ρ : Rho} {mg mb : Str → Option Value} {sc : Scope} {px pos : Pos}

/-- a, b = (a new list), (an int) : stored from behind -/
theorem ex_swap1 {a b : Str} {pa pb p p' : Pos} {k k' : Nat} {e1 e2 : Expr} {α : Type} {U : Ty α} {y : Int} {Q : Flow → Shared → Prop} {E : Value → Shared → Prop} (hh : A.handled = none) (X : Ex g s₀ D env s ρ) (he1 : Has prog w A D s (eval e1 env) (tNew s U) []) (he2 : Has prog w A D s (eval e2 env) tInt y)
    (oa : Own s₀ env a) (ob : Own s₀ env b)
    (h : ∀ s' q, s.heap.get? q = none → Ex g s₀ (Plus D q) env s' (upd (upd ρ b ⟨tInt, y⟩) a ⟨tVal, .ref q⟩) → Acc U (Plus D q) q s'.heap [] → q ≠ env.locals → Others D env s s' → Q .next s')
    (hw : swappedStores [.Tuple [.Name a pa, .Name b pb] k p] (.Tuple [e1, e2] k' p') env = pure (some [a, b])) (hp : starEach [e1, e2] env = [(false, eval e1 env), (false, eval e2 env)] := by rfl)
    (hs : swapsWithSole [.Tuple [.Name a pa, .Name b pb] k p] (.Tuple [e1, e2] k' p') pos.line env = pure false := by rfl) :
    wpAny (model prog w) A (exec (.Assign [.Tuple [.Name a pa, .Name b pb] k p] (.Tuple [e1, e2] k' p') pos) env) Q E s := by
  refine Assign_Tuple_swapped (names := [a, b]) ((has_tuple2 he1 he2 hp).use X.live fun v s₁ k1 hv => ?_) hs hw
  obtain ⟨t, n, u, z, rfl, nd, hg, ⟨q, m, vs, rfl, ndq, hgq, hpq, hnew⟩, ⟨tz, rfl⟩⟩ := hv
  cases hpq
  refine wpAny_unpackItems_tuple (t := t) (items := #[.ref q, .int y tz]) hh (isTuple_of hg) fun h' hs' => ?_
  show wpAny _ _ (assignInOrder [bindName env b, bindName env a] [.int y tz, .ref q]) _ _ _
  have k2 : Keeps s₁ { s₁ with heap := h' } := ⟨h', s₁.toks, rfl, fun b o e => hs' b o (fun z => Nat.lt_irrefl _ (z ▸ Heap.lt_size e)) e⟩
  have kk := keeps_trans k1 k2
  have hgq2 := keeps_get k2 hgq
  have hL : q ≠ env.locals := by
    rintro rfl
    obtain ⟨m0, o0, _, _, e0, _⟩ := X.fm.ns
    rw [hnew] at e0; cases e0
  have hl : Live (Plus D q) h' := fun a d => by
    rcases d with d | rfl
    · exact live_keeps X.live kk a d
    · exact ⟨_, hgq2⟩
  have X₂ := X.grow kk (plus_wide hnew) hl (.inl X.fm.volL)
  refine wpAny_assignInOrder_more (bindName_ (X₂.store (T := tInt) ob ⟨tz, rfl⟩ fun s₃ X₃ o₃ => wpAny_assignInOrder_more (bindName_ (X₃.store (T := tVal) (y := .ref q) oa rfl fun s₄ X₄ o₄ => wpAny_assignInOrder_none ?_))))
  have g3 := (oth_others o₃) _ _ hgq2 hL (firm_lst _ _)
  have g4 := (oth_others o₄) _ _ g3 hL (firm_lst _ _)
  have ot := others_trans o₃ o₄
  refine h s₄ q hnew X₄ ⟨[], m, g4, .nil⟩ hL ⟨fun b ob eb nb nc => ot.still b ob (keeps_get kk eb) nb nc, ⟨fun b ob nd f eb => (oth_others ot) b ob (keeps_get kk eb) (fun q => nd (q ▸ X.fm.volL)) f, fun b ob vs eb d => ot.calm.fields b ob vs (keeps_get kk eb) d⟩⟩

/-- a, b = (a new list), (a new list) : stored from behind -/
theorem ex_swap2 {a b : Str} {pa pb p p' : Pos} {k k' : Nat} {e1 e2 : Expr} {α β : Type} {U : Ty α} {V : Ty β} {xs : List α} {ys : List β} {Q : Flow → Shared → Prop} {E : Value → Shared → Prop} (hh : A.handled = none) (X : Ex g s₀ D env s ρ) (he1 : Has prog w A D s (eval e1 env) (tNew s U) xs)
    (he2 : ∀ s₁, Keeps s s₁ → Has prog w A D s₁ (eval e2 env) (tNew s₁ V) ys) (oa : Own s₀ env a) (ob : Own s₀ env b)
    (hU : ∀ {D : Addr → Prop} {h : Heap} {v : Value} {x : α} {q : Addr} {vs : Array Value} {n : Nat}, x ∈ xs → h.get? q = some (lstObj vs n) → U.is D h v x → U.is (Plus D q) h v x)
    (hV : ∀ {D : Addr → Prop} {h : Heap} {v : Value} {x : β} {q : Addr} {vs : Array Value} {n : Nat}, x ∈ ys → h.get? q = some (lstObj vs n) → V.is D h v x → V.is (Plus D q) h v x)
    (h : ∀ s' q r, s.heap.get? q = none → s.heap.get? r = none → q ≠ r → Ex g s₀ (Plus (Plus D q) r) env s' (upd (upd ρ b ⟨tVal, .ref r⟩) a ⟨tVal, .ref q⟩) → Acc U (Plus (Plus D q) r) q s'.heap xs → Acc V (Plus (Plus D q) r) r s'.heap ys → q ≠ env.locals → r ≠ env.locals → Others D env s s' → Q .next s')
    (hw : swappedStores [.Tuple [.Name a pa, .Name b pb] k p] (.Tuple [e1, e2] k' p') env = pure (some [a, b])) (hp1 : starEach [e1, e2] env = (false, eval e1 env) :: starEach [e2] env := by rfl) (hp2 : starEach [e2] env = (false, eval e2 env) :: starEach [] env := by rfl)
    (hs : swapsWithSole [.Tuple [.Name a pa, .Name b pb] k p] (.Tuple [e1, e2] k' p') pos.line env = pure false := by rfl) :
    wpAny (model prog w) A (exec (.Assign [.Tuple [.Name a pa, .Name b pb] k p] (.Tuple [e1, e2] k' p') pos) env) Q E s := by
  refine Assign_Tuple_swapped (names := [a, b]) (Tuple_ (spliced_more (wpAny_mono (he1 s (keeps_refl s) X.live) (fun u s₁ h1 => spliced_more (wpAny_mono (he2 s₁ h1.1 s₁ (keeps_refl _) (live_keeps X.live h1.1)) (fun z s₂ h2 => spliced_none ?_) fun _ _ e => e.elim) hp2) fun _ _ e => e.elim) hp1)) hs hw
  obtain ⟨k1, q, m, vs, rfl, ndq, hgq, hpq, hnew⟩ := h1
  obtain ⟨k2, r, m2, ws, rfl, ndr, hgr, hpr, hnewr⟩ := h2
  refine wpAny_newTuple ?_ (by rw [sizeLine_eq]; simp)
  have k3 := keeps_push s₂ (tupObj #[.ref q, .ref r] 0)
  refine wpAny_unpackItems_tuple (items := #[.ref q, .ref r]) hh (isTuple_of (Heap.get?_push_size _ rfl)) fun h' hs' => ?_
  show wpAny _ _ (assignInOrder [bindName env b, bindName env a] [.ref r, .ref q]) _ _ _
  have k4 : Keeps { s₂ with heap := s₂.heap.push (tupObj #[.ref q, .ref r] 0) } { s₂ with heap := h' } := ⟨h', s₂.toks, rfl, fun b o e => hs' b o (fun z => Nat.lt_irrefl _ (z ▸ Heap.lt_size e)) e⟩
  have k34 := keeps_trans k3 k4
  have k14 := keeps_trans k2 k34
  have kk := keeps_trans k1 k14
  have hgq2 := keeps_get k14 hgq
  have hgr2 := keeps_get k34 hgr
  have hrn : s.heap.get? r = none := keeps_none k1 hnewr
  have hqr : q ≠ r := by rintro rfl; rw [hgq] at hnewr; cases hnewr
  have notL : ∀ {q : Addr}, s.heap.get? q = none → q ≠ env.locals := fun {q} hn => by
    rintro rfl
    obtain ⟨m0, o0, _, _, e0, _⟩ := X.fm.ns
    rw [hn] at e0; cases e0
  have hLq := notL hnew
  have hLr := notL hrn
  have hl : Live (Plus (Plus D q) r) h' := fun a d => by
    rcases d with (d | rfl) | rfl
    · exact live_keeps X.live kk a d
    · exact ⟨_, hgq2⟩
    · exact ⟨_, hgr2⟩
  have pw : ∀ b o, s.heap.get? b = some o → Plus (Plus D q) r b → D b := fun b o e d => by
    rcases d with (d | rfl) | rfl
    · exact d
    · rw [hnew] at e; cases e
    · rw [hrn] at e; cases e
  have X₂ := X.grow kk pw hl (.inl (.inl X.fm.volL))
  have mapp : ∀ {γ : Type} {T : Ty γ} {us : List Value} {zs : List γ} {D : Addr → Prop} {h : Heap} {q : Addr} {vs : Array Value} {n : Nat}, (∀ x ∈ zs, ∀ v, T.is D h v x → T.is (Plus D q) h v x) → Paired (T.is D h) us zs → Paired (T.is (Plus D q) h) us zs := by
    intro γ T us zs D h q vs n hx hp
    induction hp with
    | nil => exact .nil
    | cons a _ ih => exact .cons (hx _ (.head _) _ a) (ih fun x m => hx x (.tail _ m))
  have pq : Paired (U.is (Plus (Plus D q) r) h') vs xs := by
    have := paired_mono (fun _ _ => U.mono (keeps_le k14 D)) hpq
    exact mapp (vs := #[]) (n := 0) (fun x m v hx => hU m hgr2 hx) (mapp (vs := #[]) (n := 0) (fun x m v hx => hU m hgq2 hx) this)
  have pr : Paired (V.is (Plus (Plus D q) r) h') ws ys := by
    have := paired_mono (fun _ _ => V.mono (keeps_le k34 D)) hpr
    exact mapp (vs := #[]) (n := 0) (fun x m v hx => hV m hgr2 hx) (mapp (vs := #[]) (n := 0) (fun x m v hx => hV m hgq2 hx) this)
  refine wpAny_assignInOrder_more (bindName_ (X₂.store (T := tVal) (y := .ref r) ob rfl fun s₃ X₃ o₃ => wpAny_assignInOrder_more (bindName_ (X₃.store (T := tVal) (y := .ref q) oa rfl fun s₄ X₄ o₄ => wpAny_assignInOrder_none ?_))))
  have ot := others_trans o₃ o₄
  have a1 : Acc U (Plus (Plus D q) r) q ({ s₂ with heap := h' } : Shared).heap xs := ⟨vs, m, hgq2, pq⟩
  have a2 : Acc V (Plus (Plus D q) r) r ({ s₂ with heap := h' } : Shared).heap ys := ⟨ws, m2, hgr2, pr⟩
  refine h s₄ q r hnew hrn hqr X₄ (acc_oth a1 (oth_others ot) ot.calm.le hLq) (acc_oth a2 (oth_others ot) ot.calm.le hLr) hLq hLr ⟨fun b ob eb nb nc => ot.still b ob (keeps_get kk eb) nb nc, ⟨fun b ob nd f eb => (oth_others ot) b ob (keeps_get kk eb) (fun q => nd (q ▸ X.fm.volL)) f, fun b ob vs eb d => ot.calm.fields b ob vs (keeps_get kk eb) d⟩⟩
end
end Mine

end
section
set_option maxRecDepth 100000
open PySem PySem.W PyProof.Rows PySem.Calls
namespace Mine
section
variable {prog : Program} {w : World} {A : Around} {D : Addr → Prop} {s s₁ s₀ : Shared} {g : Heap} {env : Env} {ρ : Rho} {mg mb : Str → Option Value} {sc : Scope} {px pos : Pos}
theorem ex_own_setB {x : Str} {slice e : Expr} {ps : Pos} {α : Type} {T : Ty α} {xs : List α} {p : Addr} {i : Int} {y : α} {Q : Flow → Shared → Prop} {E : Value → Shared → Prop} (X : Ex g s₀ D env s ρ) (a : Acc T D p s.heap xs) (dp : D p) (np : s₀.heap.get? p = none) (hL : p ≠ env.locals)
    (he : Has prog w A D s (eval e env) T y) (ha : Has prog w A D s (eval (.Name x px) env) tVal (.ref p)) (hb : Has prog w A D s (eval slice env) tInt i) (h0 : 0 ≤ i) (hi : i < xs.length) (hl : xs.length ≤ 1000)
    (q : ∀ s', Ex g s₀ D env s' ρ → Acc T D p s'.heap (xs.set i.toNat y) → Calm D s s' → (∀ b o, b ≠ p → s.heap.get? b = some o → s'.heap.get? b = some o) → Q .next s') (hsw : swapsWith e (some (.Subscript (.Name x px) slice ps)) pos.line env = pure false := by rfl) :
    wpAny (model prog w) A (exec (.Assign [.Subscript (.Name x px) slice ps] e pos) env) Q E s := by
  refine wpAny_Assign_Subscript (he.use X.live fun v s₁ k₁ hv => (ha.up k₁).use (live_keeps X.live k₁) fun u s₂ k₂ hu2 => (hb.up (keeps_trans k₁ k₂)).use (live_keeps X.live (keeps_trans k₁ k₂)) fun z s₃ k₃ hz => ?_) hsw
  cases hu2
  obtain ⟨t, rfl⟩ := hz
  have kk := keeps_trans (keeps_trans k₁ k₂) k₃
  obtain ⟨vs, m, hg, hp⟩ := acc_keeps a kk
  have hlen := hp.length
  refine setItem_list_obj hg h0 (by omega) (by rw [List.size_toArray, hlen]; omega) fun h' m' hl' hs => ?_
  obtain ⟨X', c'⟩ := (X.up kk).mut (tk := s₃.toks) hs dp np hg (firm_lst _ _) hl' hL
  refine q _ X' ⟨vs.set i.toNat v, m', by rw [hl']; simp, ?_⟩ ((Calm.keeps kk).trans c') fun b o nb e => (hs.2 b nb).trans (keeps_get kk e)
  exact paired_mono (fun _ _ => T.mono c'.le) (paired_set hp _ (T.mono (keeps_le (keeps_trans k₂ k₃) D) hv))
/-- either of two types -/
def tEither {α : Type} (T U : Ty α) : Ty α where
  is D h v x := T.is D h v x ∨ U.is D h v x
  mono := fun k h => h.imp (T.mono k) (U.mono k)
  wide := fun k h => h.imp (T.wide k) (U.wide k)
/-- a row without keys is no list -/
theorem row_free {prog : Program} {w : World} {a b : Str} {D : Addr → Prop} {h : Heap} {v : Value} {x : List Int} {q : Addr} {vs : Array Value} {n : Nat} (e : x = []) (hq : h.get? q = some (lstObj vs n)) (r : (tRow prog w a b).is D h v x) : (tRow prog w a b).is (Plus D q) h v x := by
  subst e
  obtain ⟨d, rfl, nd, big, es, hm, hD, hp⟩ := r
  cases hp
  refine ⟨d, rfl, fun z => z.elim nd fun e => ?_, big, ([] : List Ent3), hm, fun e m => absurd m List.not_mem_nil, Paired.nil⟩
  obtain ⟨o, e', ep, ho, hx, hdt, _⟩ := hm
  rw [e, hq] at ho; cases ho
  cases hdt
section
variable {scope : Scope} (K : Kinds sc env)
include K
theorem e_compNT {elt iter : Expr} {n : Str} {pn : Pos} {ifs : List Expr} {α β : Type} {T : Ty α} {U : Ty β} (p : α → Bool) (f : α → β) {xs : List α}
    (X : Ex g s₀ D env s ρ) (hi : Iters prog w A D s iter env T (.Name n pn) xs) (hsz : xs.length ≤ 9000)
    (ht : ∀ x ∈ xs, ∀ env' s' D' s₁, Keeps s s' → Kinds scope env' → Ex g s' D' env' s₁ (upd (pick (freeOf scope) ρ) n ⟨T, x⟩) → Tests prog w A D' s₁ ifs env' (p x))
    (he : ∀ x ∈ xs, p x = true → ∀ env' s' D' s₁, Keeps s s' → Kinds scope env' → Ex g s' D' env' s₁ (upd (pick (freeOf scope) ρ) n ⟨T, x⟩) → Has prog w A D' s₁ (eval elt env') U (f x))
    (hfree : ∀ x ∈ freeOf scope, sc.names.lookup x = some .cell ∨ sc.names.lookup x = some .free := by decide +kernel) (hk : scope.kind = .function := by rfl)
    (hln : ∀ x ∈ scope.names, x.2 = .local → scope.names.lookup x.1 = some .local := by decide +kernel)
    (hp : ∀ z ∈ freeOf scope, scope.names.lookup z = some .free ∧ (z, NameKind.cell) ∉ scope.names ∧ (z == ("__classdict__" : Str)) = false := by decide +kernel)
    (hn : scope.names.lookup n = some .local ∨ scope.names.lookup n = some .cell := by decide +kernel) (hfl : (freeOf scope).contains n = false := by decide +kernel)
    (hs : ∀ x, foldedSetIterable iter env x = pure x := by intro _; rfl) :
    Has prog w A D s (eval (.ListComp elt [⟨.Name n pn, iter, ifs, 0⟩] scope pos) env) (tNew s U) ((xs.filter p).map f) :=
  has_compNT X hi (compScope_mk K hfree hk hln hp) hsz hn hfl ht he hs
end
end
end Mine

end
section

open PySem PySem.W PyProof.Rows PySem.Calls PySem.Challenge
namespace Mine
abbrev P1 := pw_gm0002_01
end Mine

end
section
set_option maxRecDepth 100000
open PySem PySem.W PyProof.Rows PySem.Calls PySem.Challenge
namespace Mine
local macro_rules | `(tactic| walk_at "nm") => `(tactic| repeat (first | with_reducible exact upd_here | with_reducible assumption | (with_reducible refine upd_there ?_ (by decide +kernel)) | (with_reducible refine pick_in ?_ (by decide +kernel))))
local macro_rules | `(tactic| walk_at "v") => `(tactic| (refine' has_name ?X ?h ?d; (case X => assumption); (case h => walk_at "nm"); (case d => decide +kernel)))
local macro_rules | `(tactic| walk_at "un") => `(tactic| first | omega | (have := Rm.units (by assumption); omega))
section
variable {prog : Program} {w : World} {A : Around} {D : Addr → Prop} {s s₁ s₀ : Shared} {g : Heap} {env : Env} {ρ : Rho} {mg mb : Str → Option Value}

theorem foldl_snoc : ∀ (l : List (Int × Int)) (b : List Int), l.foldl (fun b (x : Int × Int) => b ++ [x.1]) b = b ++ l.map (·.1)
  | [], b => by simp
  | x :: l, b => by rw [List.foldl_cons, foldl_snoc l]; simp
theorem map_fst_one (ks : List Int) : (ks.map fun k => ((k, 1) : Int × Int)).map (·.1) = ks := by rw [List.map_map]; exact List.map_id' _

abbrev rhoA (prog : Program) (w : World) (a b : Str) (ks ls : List Int) (d : Addr) : Rho := upd (upd (upd (fun _ => none) "source" ⟨tRow prog w a b, ls⟩) "target" ⟨tRow prog w a b, ks⟩) "new_callers" ⟨tVal, .ref d⟩

theorem walk_add {a b : Str} (C : Cx g mg mb) {f1 : Value} (F1 : DefAt P1 g mg 1 f1) {A : Around} {D : Addr → Prop} {s : Shared} {u v : Value} {ks ls : List Int} (hn : (ks ++ ls).Nodup) (hl : ks.length + ls.length ≤ 500)
    (R : Rm A 2) (hg : Sub g s.heap) (hu : (tRow prog w a b).is D s.heap u ks) (hv : (tRow prog w a b).is D s.heap v ls) : Has prog w A D s (call f1 [u, v]) (tRow prog w a b) (ks ++ ls) := by
  refine hs_fn2 (k := 1) (x := "target") (x' := "source") C.W hg F1 R hu hv (by decide +kernel) (by decide +kernel) (by decide +kernel) (by decide +kernel) (fun _ _ _ => by rfl) fun s₁ env ks1 K hsc R' s₂ D' hD X own => ?_
  have hun := R'.units
  refine ex_cons ?_
  refine ex_assign_own X (has_row0T a b C X) (own _ (by decide +kernel)) fun s₃ d s₄ k3 hd hdL hP X₄ ot₄ le₄ oth₄ => ?_
  obtain ⟨big, hnew⟩ := hP
  have nd1 : s₁.heap.get? d = none := keeps_none X.kp hd
  have row0 : RowAt prog w a b (Plus D' d) s₄.heap d [] := row_empty (ot₄ d _ hnew hdL trivial)
  have hj : ∀ (b' : List Int) (t₁ t₂ : Shared), RowAt prog w a b (Plus D' d) t₁.heap d b' → Oth env t₁ t₂ → Le (Plus D' d) t₁.heap t₂.heap → RowAt prog w a b (Plus D' d) t₂.heap d b' :=
    fun b' t₁ t₂ r o le => r.up (fun ob e f => o d ob e hdL f) le
  refine ex_cons ?_
  refine ex_for_st (T := tPair (tKey prog w a b) tInt) (fun _ => rhoA prog w a b ks ls d) (fun b' t => RowAt prog w a b (Plus D' d) t.heap d b') (fun b' (x : Int × Int) => b' ++ [x.1]) [] (X₄.weak (((RLe.none.upd (by walk_at "nm")).upd (by walk_at "nm")).upd (by walk_at "nm"))) row0 hj
    (iters_items (a := a) (b := b) (ks := ks) R'.handled (by walk_at "v")) (asg_pair R'.handled (own _ (by decide +kernel)) (own _ (by decide +kernel))) ?_ ?_
  · intro done x rem s₅ hx X₅ row₅ c₅
    rw [foldl_snoc] at row₅ ⊢
    have hks : ks = done.map (·.1) ++ x.1 :: rem.map (·.1) := by
      have := congrArg (List.map fun p : Int × Int => p.1) hx
      rw [map_fst_one] at this
      simpa using this
    have one : x.2 = 1 := by
      have : x ∈ ks.map fun k => ((k, 1) : Int × Int) := by rw [hx]; simp
      obtain ⟨k, _, rfl⟩ := List.mem_map.mp this
      rfl
    have fresh : x.1 ∉ [] ++ done.map (·.1) := fun m => by
      have := List.nodup_append.mp hn |>.1
      rw [hks, List.nodup_append] at this
      exact this.2.2 _ (by simpa using m) _ (.head _) rfl
    have len : (([] : List Int) ++ done.map fun p : Int × Int => p.1).length ≤ 1000 := by
      have := congrArg List.length hks
      simp at this ⊢
      omega
    refine ex_cons ?_
    refine ex_setrow (a := a) (b := b) X₅ (by omega) (Has.val (y := 1) (by walk_at "v") one) (by walk_at "v") (by walk_at "v") row₅ fresh len (.inr rfl) nd1 hdL fun s₆ X₆ row₆ c₆ => ?_
    exact ex_nil ⟨⟨_, X₆, (((RLe.none.upd (by walk_at "nm")).upd (by walk_at "nm")).upd (by walk_at "nm"))⟩, row₆, c₆⟩
  · intro s₅ X₅ row₅ c₅
    rw [foldl_snoc, map_fst_one, List.nil_append] at row₅
    refine ex_cons ?_
    refine ex_for_st (T := tPair (tKey prog w a b) tInt) (fun _ => rhoA prog w a b ks ls d) (fun b' t => RowAt prog w a b (Plus D' d) t.heap d b') (fun b' (x : Int × Int) => b' ++ [x.1]) ks X₅ row₅ hj
      (iters_items (a := a) (b := b) (ks := ls) R'.handled (by walk_at "v")) (asg_pair R'.handled (own _ (by decide +kernel)) (own _ (by decide +kernel))) ?_ ?_
    · intro done x rem s₆ hx X₆ row₆ c₆
      rw [foldl_snoc] at row₆ ⊢
      have hks : ls = done.map (·.1) ++ x.1 :: rem.map (·.1) := by
        have := congrArg (List.map fun p : Int × Int => p.1) hx
        rw [map_fst_one] at this
        simpa using this
      have one : x.2 = 1 := by
        have : x ∈ ls.map fun k => ((k, 1) : Int × Int) := by rw [hx]; simp
        obtain ⟨k, _, rfl⟩ := List.mem_map.mp this
        rfl
      have fresh : x.1 ∉ ks ++ done.map (·.1) := fun m => by
        have h1 := List.nodup_append.mp hn
        rw [hks] at h1
        rcases List.mem_append.mp m with m | m
        · exact h1.2.2 _ m x.1 (by simp) rfl
        · exact (List.nodup_append.mp h1.2.1).2.2 _ m _ (.head _) rfl
      have len : (ks ++ done.map (·.1)).length ≤ 1000 := by
        have := congrArg List.length hks
        simp at this ⊢
        omega
      refine ex_cons ?_
      refine ex_if2 X₆ (b := false) (tst_cmp (T := tKey prog w a b) (U := tVal) (x := x.1) (y := .ref d) (by walk_at "v") (by walk_at "v") fun t u' v' kt h1 h2 => ?_) (fun q => by cases q) fun _ s₇ X₇ k₇ => ?_
      · cases h2
        exact cmp_inrow (by omega) big h1 (row₆.up (fun o e _ => keeps_get kt e) (keeps_le kt _)) fresh
      · have row₇ := row₆.up (fun o e _ => keeps_get k₇ e) (keeps_le k₇ _)
        refine ex_cons ?_
        refine ex_setrow (a := a) (b := b) X₇ (by omega) (Has.val (y := 1) (by walk_at "v") one) (by walk_at "v") (by walk_at "v") row₇ fresh len (.inr rfl) nd1 hdL fun s₈ X₈ row₈ c₈ => ?_
        exact ex_nil (ex_nil ⟨⟨_, X₈, (((RLe.none.upd (by walk_at "nm")).upd (by walk_at "nm")).upd (by walk_at "nm"))⟩, row₈, (Calm.keeps k₇).trans c₈⟩)
    · intro s₆ X₆ row₆ c₆
      rw [foldl_snoc, map_fst_one] at row₆
      refine ex_cons ?_
      refine ex_return X₆ (P := fun h v => tVal.is (Plus D' d) h v (.ref d)) ?_ fun v' s₇ k₇ hv' => ?_
      · walk_at "v"
      cases hv'
      refine ⟨keeps_trans X₆.kp k₇, d, rfl, fun q => live_none X.live hd (hD d q), big, ?_⟩
      exact (row₆.up (fun o e _ => keeps_get k₇ e) (keeps_le k₇ _)).thin fun c o _ q => .inl (hD c q)

theorem foldl_count : ∀ (l : List Int) (n : Int), (l.map fun _ => (1 : Int)).foldl (fun n c => n + c) n = n + l.length
  | [], n => by simp
  | x :: l, n => by rw [List.map_cons, List.foldl_cons, foldl_count l]; simp; omega

theorem walk_count {a b : Str} (C : Cx g mg mb) {f2 : Value} (F2 : DefAt P1 g mg 2 f2) {A : Around} {D : Addr → Prop} {s : Shared} {v : Value} {ks : List Int}
    (R : Rm A 2) (hg : Sub g s.heap) (hv : (tRow prog w a b).is D s.heap v ks) : Has prog w A D s (call f2 [v]) tInt ks.length := by
  refine hs_fn1 (k := 1) (x := "callers") C.W hg F2 R hv (by decide +kernel) (by decide +kernel) (fun _ _ _ => by rfl) fun s₁ env ks1 K hsc R' s₂ D' hD X own => ?_
  refine ex_cons ?_
  refine ex_assign (T := tInt) (y := 0) X (has_int _ _ _) (own _ (by decide +kernel)) fun s₃ X₃ o₃ => ?_
  refine ex_cons ?_
  refine ex_for_st (T := tInt) (xs := ks.map fun _ => 1) (fun n => upd (upd (fun _ => none) "callers" ⟨tRow prog w a b, ks⟩) "nc" ⟨tInt, n⟩) (fun _ _ => True) (fun n c => n + c) 0 X₃ trivial (fun _ _ _ _ _ _ => trivial)
    (iters_values (a := a) (b := b) R'.handled (by walk_at "v")) (asg_name (own _ (by decide +kernel))) ?_ ?_
  · intro done x rem s₄ hx X₄ _ c₄
    refine ex_cons ?_
    refine ex_augadd (i := done.foldl (fun n c => n + c) 0) (j := x) X₄ (by walk_at "nm") (by walk_at "v") (own _ (by decide +kernel)) fun s₅ X₅ o₅ => ?_
    exact ex_nil ⟨⟨_, X₅, (RLe.none.upd (by walk_at "nm")).upd (by walk_at "nm")⟩, trivial, o₅.calm⟩
  · intro s₄ X₄ _ c₄
    rw [foldl_count] at X₄
    refine ex_ret (T := tInt) (y := ks.length) X₄ hD (fun _ _ a b => ⟨a, b⟩) (Has.val (x := 0 + (ks.length : Int)) ?_ (by omega))
    walk_at "v"
end
end Mine

end
section
set_option maxRecDepth 100000
open PySem PySem.W PyProof.Rows PySem.Calls PySem.Challenge
namespace Mine
local macro_rules | `(tactic| walk_at "nm") => `(tactic| repeat (first | with_reducible exact upd_here | with_reducible assumption | (with_reducible refine upd_there ?_ (by decide +kernel)) | (with_reducible refine pick_in ?_ (by decide +kernel))))
local macro_rules | `(tactic| walk_at "v") => `(tactic| (refine' has_name ?X ?h ?d; (case X => assumption); (case h => walk_at "nm"); (case d => decide +kernel)))
local macro_rules | `(tactic| walk_at "un") => `(tactic| first | omega | (have := Rm.units (by assumption); omega))

abbrev rowsAt (rows : List (List Int)) (i : Int) : List Int := rows.getD i.toNat []
def addTo (rows : List (List Int)) (i k : Int) : List (List Int) := rows.set i.toNat (rowsAt rows i ++ [k])
def stepC (rows : List (List Int)) (x : Int × Int) : List (List Int) := addTo (addTo rows x.1 x.2) x.2 x.1
def okC (rows : List (List Int)) (x : Int × Int) : Bool :=
  decide (0 ≤ x.1) && decide (x.1 < rows.length) && decide (0 ≤ x.2) && decide (x.2 < rows.length) && !(rowsAt rows x.1).contains x.2 && !(rowsAt (addTo rows x.1 x.2) x.2).contains x.1 &&
  decide ((rowsAt rows x.1).length ≤ 100) && decide ((rowsAt (addTo rows x.1 x.2) x.2).length ≤ 100)
def freshC : List (List Int) → List (Int × Int) → Bool
  | _, [] => true
  | rows, x :: r => okC rows x && freshC (stepC rows x) r
theorem freshC_at : ∀ {done : List (Int × Int)} {rows : List (List Int)} {x : Int × Int} {rem : List (Int × Int)}, freshC rows (done ++ x :: rem) = true → okC (done.foldl stepC rows) x = true
  | [], rows, x, rem, h => by
    simp only [List.nil_append, freshC, Bool.and_eq_true] at h
    exact h.1
  | y :: done, rows, x, rem, h => by
    simp only [List.cons_append, freshC, Bool.and_eq_true] at h
    rw [List.foldl_cons]
    exact freshC_at (rem := rem) h.2
theorem addTo_len (rows : List (List Int)) (i k : Int) : (addTo rows i k).length = rows.length := by simp [addTo]
theorem stepC_len (rows : List (List Int)) (x : Int × Int) : (stepC rows x).length = rows.length := by simp [stepC, addTo_len]
theorem foldC_len : ∀ (l : List (Int × Int)) (rows : List (List Int)), (l.foldl stepC rows).length = rows.length
  | [], _ => rfl
  | x :: l, rows => by rw [List.foldl_cons, foldC_len l, stepC_len]

def rows0 (many : Int) : List (List Int) := ((rangeL 0 many.toNat).filter fun _ => true).map fun _ => []
def countsL (ties : List (Int × Int)) (many : Int) : List Int := ((ties.foldl stepC (rows0 many)).filter fun _ => true).map fun r => r.length

section
variable {prog : Program} {w : World} {A : Around} {D : Addr → Prop} {s s₁ s₀ : Shared} {g : Heap} {env : Env} {ρ : Rho} {mg mb : Str → Option Value}

theorem nodup_snoc {ks : List Int} {k : Int} (h : ks.Nodup) (n : k ∉ ks) : (ks ++ [k]).Nodup := by
  rw [List.nodup_append]
  exact ⟨h, by simp, fun x hx y hy => by simp at hy; subst hy; exact fun e => n (e ▸ hx)⟩

/-- calls[one] = add_callers(calls[one], {(a, other, b): 1}) -/
theorem ex_tally {a b : Str} {cx fx o1 : Str} {pc pc' pf pk po po' ps ps' pt pd p1 pp pcall pos : Pos} {kk nn k1 : Nat} {eo : Expr} {sc : Scope} (C : Cx g mg mb) (K : Kinds sc env) {f1 : Value} (F1 : DefAt P1 g mg 1 f1) (hfx : fx = nameOf (stOf P1 1)) {rows : List (List Int)} {p : Addr} {i k : Int} {Q : Flow → Shared → Prop} {E : Value → Shared → Prop}
    (X : Ex g s₀ D env s ρ) (R : Rm A 3) (acc : Acc (tRow prog w a b) D p s.heap rows) (dp : D p) (np : s₀.heap.get? p = none) (hL : p ≠ env.locals)
    (hc : ∀ (s' : Shared) (pp : Pos), Keeps s s' → Has prog w A D s' (eval (.Name cx pp) env) tVal (.ref p)) (hi : ∀ (s' : Shared) (pp : Pos), Keeps s s' → Has prog w A D s' (eval (.Name o1 pp) env) tInt i)
    (ha : Has prog w A D s (eval (.Constant (.str a) nn pk) env) tStr a) (hk : Has prog w A D s (eval eo env) tInt k)
    (h0 : 0 ≤ i) (hlt : i < rows.length) (hn : k ∉ rowsAt rows i) (hl : (rowsAt rows i).length ≤ 100) (hr : rows.length ≤ 100)
    (hg : sc.names.lookup fx = some .globalImplicit) (st : isStarred eo = false)
    (q : ∀ s', Ex g s₀ D env s' ρ → Acc (tRow prog w a b) D p s'.heap (addTo rows i k) → Calm D s s' → Q .next s') :
    wpAny (model prog w) A (exec (.Assign [.Subscript (.Name cx pc) (.Name o1 po) ps] (.Call (.Name fx pf) [.Subscript (.Name cx pc') (.Name o1 po') ps', .Dict [some (.Tuple [.Constant (.str a) nn pk, eo, .Constant (.str b) k1 p1] kk pt)] [.Constant (.int 1) 0 pd] pp] [] pcall) pos) env) Q E s := by
  have hun := R.units
  subst hfx
  refine ex_own_set (T := tRow prog w a b) (y := rowsAt rows i ++ [k]) X acc dp np hL ?_ (hc s _ (keeps_refl s)) (hi s _ (keeps_refl s)) h0 hlt (by omega) q
  refine e_call2 (tRow prog w a b) (rowsAt rows i) (tRow prog w a b) [k] C K X F1.gl F1.callee ?_ ?_ (fun s₁ u v k₁ hu hv => ?_) hg (by decide +kernel)
  · exact has_own_item (T := tRow prog w a b) acc (hc s _ (keeps_refl s)) (hi s _ (keeps_refl s)) h0 (by omega) (getD_of [] (by omega))
  · exact has_row1 C X (by omega) (has_key ha hk (has_str _ _ _) rfl st rfl) (has_int _ _ _)
  · have nd : (rowsAt rows i).Nodup := by
      obtain ⟨d, _, _, _, r⟩ := hu
      exact row_nodup r
    exact walk_add C F1 (nodup_snoc nd hn) (show (rowsAt rows i).length + 1 ≤ 500 by omega) (R.less (by omega)) (sub_keeps X.subs k₁) hu hv

end
end Mine

end
section
set_option maxRecDepth 100000
open PySem PySem.W PyProof.Rows PySem.Calls PySem.Challenge
namespace Mine
local macro_rules | `(tactic| walk_at "nm") => `(tactic| repeat (first | with_reducible exact upd_here | with_reducible assumption | (with_reducible refine upd_there ?_ (by decide +kernel)) | (with_reducible refine pick_in ?_ (by decide +kernel))))
local macro_rules | `(tactic| walk_at "v") => `(tactic| (refine' has_name ?X ?h ?d; (case X => assumption); (case h => walk_at "nm"); (case d => decide +kernel)))
local macro_rules | `(tactic| walk_at "un") => `(tactic| first | omega | (have := Rm.units (by assumption); omega))

def setB : Nat → List Int → Int → Int → Int → List Int
  | 0, ds, _, _, _ => ds
  | fuel + 1, ds, x, L, R => if L + 1 == R then ds.set L.toNat x else
    setB fuel (setB fuel ds (x % 2 ^ ((L + R) / 2 - L).toNat) L ((L + R) / 2)) (x.fdiv (2 ^ ((L + R) / 2 - L).toNat)) ((L + R) / 2) R
theorem setB_len : ∀ (n : Nat) (ds : List Int) (x L R : Int), (setB n ds x L R).length = ds.length
  | 0, _, _, _, _ => rfl
  | n + 1, ds, x, L, R => by
    unfold setB
    split
    · simp
    · rw [setB_len n, setB_len n]

def innerOf (i : Nat) : Stmt := (bodyOf (stOf P1 i)).getD 1 (.Pass ⟨0, 0, 0, 0⟩)

section
variable {prog : Program} {w : World} {A : Around} {D : Addr → Prop} {s s₁ s₀ : Shared} {g : Heap} {env : Env} {ρ : Rho} {mg mb : Str → Option Value}

structure Inr (g : Heap) (D : Addr → Prop) (f p : Addr) (qual : Str) (cl : List (Str × Addr)) (s : Shared) (ds : List Int) : Prop where
  sub : Sub g s.heap
  live : Live D s.heap
  clo : CloAt s.heap f "inner" qual (paramsOf (innerOf 4)) (bodyOf (innerOf 4)) (scopeOf (innerOf 4)) cl
  cA : ∃ c, cl.lookup ("a_digits" : Str) = some c ∧ s.heap.IsCell c (some (.ref p))
  cI : ∃ c, cl.lookup ("inner" : Str) = some c ∧ s.heap.IsCell c (some (.ref f))
  cN : ∃ c t, cl.lookup ("n" : Str) = some c ∧ s.heap.IsCell c (some (.int 1 t))
  good : CellsGood s.heap cl
  acc : Acc tInt D p s.heap ds

theorem Inr.step {f p : Addr} {qual : Str} {cl : List (Str × Addr)} {ds ds' : List Int} {D' : Addr → Prop} (x : Inr g D f p qual cl s ds) (st : StepI [p] s s₁) (gp : g.get? p = none) (a : Acc tInt D p s₁.heap ds') (l : Live D' s₁.heap) : Inr g D' f p qual cl s₁ ds' := by
  obtain ⟨vs, n, hp, _⟩ := x.acc
  have cellk : ∀ {c : Addr} {v : Option Value}, s.heap.IsCell c v → s₁.heap.IsCell c v := fun {c v} h => by
    obtain ⟨o, e, d⟩ := h
    exact ⟨o, stepI_get st (fun m => by rw [List.mem_singleton] at m; rw [m, hp] at e; cases e; cases d) e, d⟩
  obtain ⟨cA, eA, hA⟩ := x.cA
  obtain ⟨cI, eI, hI⟩ := x.cI
  obtain ⟨cN, tN, eN, hN⟩ := x.cN
  refine ⟨fun b o e => stepI_get st (fun m => by rw [List.mem_singleton] at m; rw [m, gp] at e; cases e) (x.sub b o e), l, x.clo.up (I := [p]) (fun b o nb e => stepI_get st nb e) (fun b m o e => ?_), ⟨cA, eA, cellk hA⟩, ⟨cI, eI, cellk hI⟩, ⟨cN, tN, eN, cellk hN⟩,
    ⟨fun y c e => let ⟨v, hv⟩ := x.good.cell y c e; ⟨v, cellk hv⟩, x.good.apart⟩, a⟩
  rw [List.mem_singleton] at m
  subst m
  rw [hp] at e; cases e
  exact ⟨_, _, rfl⟩

theorem inner_binds (x L R : Int) (tx tL tR : Tok) : ∀ fd : FuncData, fd.params = paramsOf (innerOf 4) → fd.qualname = fd.qualname → fd.defaults = .none → fd.kwdefaults = .none →
    bindArgs fd ⟨[.int x tx, .int L tL, .int R tR], []⟩ = pure [(Str.ofString "x", Value.int x tx), (Str.ofString "L", Value.int L tL), (Str.ofString "R", Value.int R tR)] := by
  intro fd h1 _ h3 h4
  obtain ⟨a1, a2, a3, a4, a5, a6, a7, a8, a9, b1, b2, b3, b4, b5, b6⟩ := fd
  simp only at h1 h3 h4
  subst h1 h3 h4
  rfl

abbrev rhoI (x L R : Int) (p f : Addr) : Rho := upd (upd (upd (upd (upd (upd (fun _ => none) "n" ⟨tInt, 1⟩) "inner" ⟨tVal, .ref f⟩) "a_digits" ⟨tVal, .ref p⟩) "R" ⟨tInt, R⟩) "L" ⟨tInt, L⟩) "x" ⟨tInt, x⟩

theorem walk_inner (C : Cx g mg mb) {f p : Addr} {qual : Str} {cl : List (Str × Addr)} (gp : g.get? p = none) (hall : ∀ x, (scopeOf (innerOf 4)).names.lookup x = some .free → ∃ c, cl.lookup x = some c) :
    ∀ n : Nat, n ≤ 100 → ∀ {A : Around} {D : Addr → Prop} {s : Shared} {ds : List Int} {x L R : Int} {tx tL tR : Tok}, D p → Inr g D f p qual cl s ds → Rm A (n + 2) → 0 ≤ L → L < R → R - L ≤ n → R ≤ ds.length → ds.length ≤ 1000 → 0 ≤ x → x < 2 ^ 20 →
    wpAny (model prog w) A (call (.ref f) [.int x tx, .int L tL, .int R tR]) (fun v s' => v = .none ∧ StepI [p] s s' ∧ Acc tInt D p s'.heap (setB n ds x L R)) NE s := by
  intro n
  induction n with
  | zero => intro _ A D s ds x L R tx tL tR dp I Rr h0 h1 h2; omega
  | succ n ih =>
    intro hn A D s ds x L R tx tL tR dp I Rr h0 h1 h2 h3 h4 h5 h6
    obtain ⟨cA, eA, hA⟩ := I.cA
    obtain ⟨cI, eI, hI⟩ := I.cI
    obtain ⟨cN, tN, eN, hN⟩ := I.cN
    refine wp_clo C.W I.sub I.live I.clo (k := n + 2) Rr [("x", .int x tx, ⟨tInt, x⟩), ("L", .int L tL, ⟨tInt, L⟩), ("R", .int R tR, ⟨tInt, R⟩)] [("a_digits", .ref p, ⟨tVal, .ref p⟩), ("inner", .ref f, ⟨tVal, .ref f⟩), ("n", .int 1 tN, ⟨tInt, 1⟩)]
      (fun fd q1 q2 q3 q4 => inner_binds x L R tx tL tR fd q1 rfl q3 q4) ?_ ?_ I.good ["x", "L", "R"] ["a_digits", "inner", "n"] rfl rfl (by decide +kernel) (by decide +kernel) (by decide +kernel) hall (by decide +kernel) (fun env hsc R' s₂ X => ?_)
    · intro t m
      rcases List.mem_cons.mp m with rfl | m
      · exact ⟨_, rfl⟩
      rcases List.mem_cons.mp m with rfl | m
      · exact ⟨_, rfl⟩
      rcases List.mem_cons.mp m with rfl | m
      · exact ⟨_, rfl⟩
      cases m
    · intro t m
      rcases List.mem_cons.mp m with rfl | m
      · exact ⟨rfl, cA, eA, hA⟩
      rcases List.mem_cons.mp m with rfl | m
      · exact ⟨rfl, cI, eI, hI⟩
      rcases List.mem_cons.mp m with rfl | m
      · exact ⟨⟨_, rfl⟩, cN, eN, hN⟩
      cases m
    · have K : Kinds (scopeOf (innerOf 4)) env := kinds_of hsc
      have hun := R'.units
      obtain ⟨vp, np, hp, hpp⟩ := I.acc
      have kp := X.kp
      have hpL : p ≠ env.locals := fun q => by have := X.fm.newL; rw [← q, hp] at this; cases this
      have own : ∀ {y : Str}, (scopeOf (innerOf 4)).names.lookup y = some .local → Own (hid s p) env y := fun h => .inl (K.kd h (by decide))
      have X : Ex g (hid s p) (Plus D env.locals) env s₂ (rhoI x L R p f) := X.base keeps_hid (sub_hid I.sub gp)
      have acc₂ : Acc tInt (Plus D env.locals) p s₂.heap ds := acc_int (D := D) (acc_keeps I.acc kp)
      have lx : 0 ≤ x % 2 ^ ((L + R) / 2 - L).toNat := Int.emod_nonneg _ (Int.ne_of_gt (Int.pow_pos (by decide)))
      have lx2 : x % 2 ^ ((L + R) / 2 - L).toNat ≤ x := by
        have e := Int.emod_add_mul_ediv x (2 ^ ((L + R) / 2 - L).toNat)
        have p : 0 ≤ (2 : Int) ^ ((L + R) / 2 - L).toNat * (x / 2 ^ ((L + R) / 2 - L).toNat) := Int.mul_nonneg (Int.le_of_lt (Int.pow_pos (by decide))) (Int.ediv_nonneg h5 (Int.le_of_lt (Int.pow_pos (by decide))))
        omega
      have ux : x.fdiv (2 ^ ((L + R) / 2 - L).toNat) = x / 2 ^ ((L + R) / 2 - L).toNat := Int.fdiv_eq_ediv_of_nonneg _ (Int.le_of_lt (Int.pow_pos (by decide)))
      have ux0 : 0 ≤ x.fdiv (2 ^ ((L + R) / 2 - L).toNat) := by rw [ux]; exact Int.ediv_nonneg h5 (Int.le_of_lt (Int.pow_pos (by decide)))
      have ux1 : x.fdiv (2 ^ ((L + R) / 2 - L).toNat) ≤ x := by rw [ux]; exact Int.ediv_le_self _ h5
      refine ex_cons ?_
      refine ex_if2 X (b := L + 1 == R) (tst_eq (has_add ?_ (has_int _ _ _)) ?_) (fun hb s₃ X₃ k₃ => ?_) fun hb s₃ X₃ k₃ => ?_
      · walk_at "v"
      · walk_at "v"
      · refine ex_cons ?_
        refine ex_own_set (T := tInt) (y := x) (i := L) X₃ (acc_keeps acc₂ k₃) (.inl dp) hid_none hpL ?_ ?_ ?_ h0 (by omega) h4 fun s₄ X₄ acc₄ c₄ => ?_
        · walk_at "v"
        · walk_at "v"
        · walk_at "v"
        · refine ex_cons ?_
          refine wpAny_Return_none ⟨rfl, stepI_hid X₄.kp, ?_⟩
          unfold setB
          rw [if_pos hb]
          exact acc₄
      · have hb' : ¬ L + 1 = R := by simpa using hb
        have acc₃ := acc_keeps acc₂ k₃
        refine ex_nil (ex_cons ?_)
        refine ex_assign (T := tInt) (y := (L + R) / 2) X₃ (Has.val (x := (L + R).fdiv (2 ^ (1 : Int).toNat)) (has_shr (x := L + R) (y := 1) (has_add (x := L) (y := R) ?_ ?_) (has_int _ _ _) (by decide)) ?_) (own (by decide +kernel)) fun s₄ X₄ o₄ => ?_
        · walk_at "v"
        · walk_at "v"
        · rw [Int.fdiv_eq_ediv_of_nonneg _ (by decide)]; rfl
        refine ex_cons ?_
        refine ex_assign (T := tInt) (y := (L + R) / 2 - L) X₄ (Has.val (has_mul (x := (L + R) / 2 - L) (y := 1) (has_sub (x := (L + R) / 2) (y := L) ?_ ?_) ?_ (IntMulOk.of_right (by decide +kernel))) (Int.mul_one _)) (own (by decide +kernel)) fun s₅ X₅ o₅ => ?_
        · walk_at "v"
        · walk_at "v"
        · walk_at "v"
        refine ex_cons ?_
        refine ex_assign (T := tInt) (y := x.fdiv (2 ^ ((L + R) / 2 - L).toNat)) X₅ (has_shr (x := x) (y := (L + R) / 2 - L) ?_ ?_ (by omega)) (own (by decide +kernel)) fun s₆ X₆ o₆ => ?_
        · walk_at "v"
        · walk_at "v"
        refine ex_cons ?_
        refine ex_assign (T := tInt) (y := x % 2 ^ ((L + R) / 2 - L).toNat) X₆ (Has.val (has_xor (x := x) (y := x.fdiv (2 ^ ((L + R) / 2 - L).toNat) * 2 ^ ((L + R) / 2 - L).toNat) ?_ (has_shl (x := x.fdiv (2 ^ ((L + R) / 2 - L).toNat)) (y := (L + R) / 2 - L) ?_ ?_ (by omega) (by omega) (by omega))) (xor_low h5 _)) (own (by decide +kernel)) fun s₇ X₇ o₇ => ?_
        · walk_at "v"
        · walk_at "v"
        · walk_at "v"
        have oth := (((oth_others o₄).trans (oth_others o₅)).trans (oth_others o₆)).trans (oth_others o₇)
        have le7 : ∀ {a b : Shared}, Oth env a b → Le (Plus D env.locals) a.heap b.heap := fun o b ob nd f e => o b ob e (fun q => nd (q ▸ X.fm.volL)) f
        have acc₇ : Acc tInt (Plus D env.locals) p s₇.heap ds := acc_oth acc₃ oth (le7 oth) hpL
        have st₇ : StepI [p] s s₇ := stepI_hid X₇.kp
        have I₇ : Inr g (Plus D env.locals) f p qual cl s₇ ds := I.step st₇ gp acc₇ X₇.live
        refine ex_expr ?_ rfl (by unfold interactive; rw [hsc]; rfl)
        refine wp_call3 (T := tInt) (U := tInt) (V := tInt) (y := x % 2 ^ ((L + R) / 2 - L).toNat) (z := L) (t := (L + R) / 2) (f := .ref f) X₇.live ?_ ?_ ?_ ?_ ?_ fun s₈ u v w' k₈ hu hv hw => ?_
        · walk_at "v"
        · obtain ⟨o, _, _, _, _, e, d, _⟩ := I₇.clo
          exact .inr ⟨_, _, _, rfl, e, d⟩
        · walk_at "v"
        · walk_at "v"
        · walk_at "v"
        obtain ⟨t1, rfl⟩ := hu
        obtain ⟨t2, rfl⟩ := hv
        obtain ⟨t3, rfl⟩ := hw
        have I₈ : Inr g (Plus D env.locals) f p qual cl s₈ ds := I₇.step (stepI_keeps k₈) gp (acc_keeps acc₇ k₈) (live_keeps X₇.live k₈)
        refine wpAny_mono (ih (by omega) (.inl dp) I₈ (R'.less (by omega)) h0 (by omega) (by omega) (by omega) h4 lx (by omega)) (fun v s₉ h => ?_) fun _ _ e => e
        obtain ⟨rfl, st₉, acc₉⟩ := h
        obtain ⟨vp8, np8, hp8, _⟩ := I₈.acc
        obtain ⟨vp9, np9, hp9, _⟩ := id acc₉
        have X₉ := (X₇.up k₈).stepOwn st₉ (.inl dp) hid_none hp8 (firm_lst _ _) hp9 hpL
        have I₉ : Inr g (Plus D env.locals) f p qual cl s₉ _ := I₈.step st₉ gp acc₉ X₉.live
        refine ex_expr ?_ rfl (by unfold interactive; rw [hsc]; rfl)
        refine wp_call3 (T := tInt) (U := tInt) (V := tInt) (y := x.fdiv (2 ^ ((L + R) / 2 - L).toNat)) (z := (L + R) / 2) (t := R) (f := .ref f) X₉.live ?_ ?_ ?_ ?_ ?_ fun s₁₀ u v w' k₁₀ hu hv hw => ?_
        · walk_at "v"
        · obtain ⟨o, _, _, _, _, e, d, _⟩ := I₉.clo
          exact .inr ⟨_, _, _, rfl, e, d⟩
        · walk_at "v"
        · walk_at "v"
        · walk_at "v"
        obtain ⟨t4, rfl⟩ := hu
        obtain ⟨t5, rfl⟩ := hv
        obtain ⟨t6, rfl⟩ := hw
        have I₁₀ : Inr g (Plus D env.locals) f p qual cl s₁₀ _ := I₉.step (stepI_keeps k₁₀) gp (acc_keeps acc₉ k₁₀) (live_keeps X₉.live k₁₀)
        refine wpAny_mono (ih (by omega) (.inl dp) I₁₀ (R'.less (by omega)) (by omega) (by omega) (by omega) (by rw [setB_len]; omega) (by rw [setB_len]; omega) ux0 (by omega)) (fun v s₁₁ h => ?_) fun _ _ e => e
        obtain ⟨rfl, st₁₁, acc₁₁⟩ := h
        refine ex_nil ⟨rfl, stepI_trans st₇ (stepI_trans (stepI_keeps k₈) (stepI_trans st₉ (stepI_trans (stepI_keeps k₁₀) st₁₁))), ?_⟩
        unfold setB
        rw [if_neg (by simpa using hb')]
        exact acc₁₁
end
end Mine

end
section
set_option maxRecDepth 100000
open PySem PySem.W PyProof.Rows PySem.Calls PySem.Challenge
namespace Mine
local macro_rules | `(tactic| walk_at "nm") => `(tactic| repeat (first | with_reducible exact upd_here | with_reducible assumption | (with_reducible refine upd_there ?_ (by decide +kernel)) | (with_reducible refine pick_in ?_ (by decide +kernel))))
local macro_rules | `(tactic| walk_at "v") => `(tactic| (refine' has_name ?X ?h ?d; (case X => assumption); (case h => walk_at "nm"); (case d => decide +kernel)))
local macro_rules | `(tactic| walk_at "un") => `(tactic| first | omega | (have := Rm.units (by assumption); omega))

def zerosL (a : Int) : List Int := (List.replicate (((Builtin.Int.intBits a : Int) + 1 - 1).fdiv 1).toNat [(0 : Int)]).flatten
def i2dL (a : Int) : List Int := if a != 0 then setB 20 (zerosL a) a 0 (zerosL a).length else zerosL a
theorem zerosL_len (a : Int) : (zerosL a).length = Builtin.Int.intBits a := by
  unfold zerosL
  rw [List.length_flatten, List.map_replicate, List.sum_replicate_nat]
  have : (((Builtin.Int.intBits a : Int) + 1 - 1).fdiv 1).toNat = Builtin.Int.intBits a := by
    rw [Int.fdiv_eq_ediv_of_nonneg _ (by decide)]
    omega
  rw [this]
  simp
theorem i2dL_len (a : Int) : (i2dL a).length = Builtin.Int.intBits a := by
  unfold i2dL
  split
  · rw [setB_len, zerosL_len]
  · exact zerosL_len a

section
variable {prog : Program} {w : World} {A : Around} {D : Addr → Prop} {s s₁ s₀ : Shared} {g : Heap} {env : Env} {ρ : Rho} {mg mb : Str → Option Value}

abbrev TabAt4 (g : Heap) (mg : Str → Option Value) (i : Nat) (f : Value) (P : Addr) : Prop := FnTab g mg (nameOf (stOf P1 i)) (paramsOf (stOf P1 i)) (bodyOf (stOf P1 i)) (scopeOf (stOf P1 i)) f P

theorem cell_of {sc : Scope} {x : Str} {e : Ent} (K : Kinds sc env) (X : Ex g s₀ D env s ρ) (hx : ρ x = some e) (hk : sc.names.lookup x = some .cell) : ∃ c v, env.cells.lookup x = some c ∧ s.heap.IsCell c (some v) ∧ e.T.is D s.heap v e.y := by
  obtain ⟨v, hn, ht⟩ := X.fm.names x e hx
  rcases hn with ⟨a, _⟩ | ⟨_, c, hc, hv⟩
  · rw [K.kd hk (by decide)] at a; cases a
  · exact ⟨c, v, hc, hv, ht⟩

theorem walk_i2d (C : Cx g mg mb) (B : Bm g mg) {f4 : Value} {P : Addr} (F4 : TabAt4 g mg 4 f4 P) (gP : g.get? P = none) {A : Around} {D : Addr → Prop} {s : Shared} {a : Int} {u v : Value} (h0 : 0 ≤ a) (h1 : a < 2 ^ 20) (hbit : Builtin.Int.intBits a ≤ 20) (hpos : a ≠ 0 → 1 ≤ Builtin.Int.intBits a)
    (R : Rm A 30) (hg : Sub g s.heap) (hl : Live D s.heap) (hP : s.heap.get? P = some (tabObj #[])) (nP : ¬ D P) (hu : tInt.is D s.heap u a) (hv : tInt.is D s.heap v 1) :
    wpAny (model prog w) A (call f4 [u, v]) (fun r s' => (∃ ps, s'.heap.get? P = some (tabObj ps)) ∧ StepI [P] s s' ∧ (tList tInt).is D s'.heap r (i2dL a)) NE s := by
  refine wp_fn (k := 29) C.W hg hl F4.at R [("a", u, ⟨tInt, a⟩), ("n", v, ⟨tInt, 1⟩)] (fun _ _ _ => by rfl) ?_ (fun env hsc hcd R' own hnew s₂ X => ?_) ["a", "n"] rfl (by decide +kernel) (by decide +kernel) (by decide +kernel)
  · intro t m
    rcases List.mem_cons.mp m with rfl | m
    · exact hu
    rcases List.mem_cons.mp m with rfl | m
    · exact hv
    cases m
  · obtain ⟨c, hcode, hhd⟩ := hcd P F4
    have hun := R'.units
    have K : Kinds (scopeOf (stOf P1 4)) env := kinds_of hsc
    have hPL : P ≠ env.locals := fun q => by rw [← q, hP] at hnew; cases hnew
    have kp := X.kp
    have hP₂ := keeps_get kp hP
    have lv := X.live
    have X : Ex g (hid s P) (Plus D env.locals) env s₂ (upd (upd (fun _ => none) "n" ⟨tInt, 1⟩) "a" ⟨tInt, a⟩) := X.base keeps_hid (sub_hid hg gP)
    have own : ∀ {n : Str}, (scopeOf (stOf P1 4)).names.lookup n = some .local ∨ (scopeOf (stOf P1 4)).names.lookup n = some .cell → Own (hid s P) env n := fun h => (own _ h).base keeps_hid
    refine ex_cons ?_
    refine ex_assign_own (P := fun h p => Acc tInt D p h (zerosL a)) X ?_ (own (by decide +kernel)) fun s₃ p s₄ k₃ hp hpL acc₃ X₄ oth₄ le₄ ot₄ => ?_
    · refine Hs.weak (has_mullistT (T := tInt) (xs := [0]) (n := ((Builtin.Int.intBits a : Int) + 1 - 1).fdiv 1) (has_list1 (has_int _ _ _) rfl) ?_ ?_ ?_ (by simp)) fun s' v' k hv' => ?_
      · refine has_fdiv (x := (Builtin.Int.intBits a : Int) + 1 - 1) (y := 1) (has_sub (x := (Builtin.Int.intBits a : Int) + 1) (y := 1) (has_add (x := Builtin.Int.intBits a) (y := 1) (has_bitlen ?_) ?_) (has_int _ _ _)) ?_ (by decide) ?_
        · walk_at "v"
        · walk_at "v"
        · walk_at "v"
        · unfold Builtin.divisionGoesByPylong
          rw [Bool.and_eq_false_iff]
          exact .inl (by decide +kernel)
      · rw [Int.fdiv_eq_ediv_of_nonneg _ (by decide)]; omega
      · rw [Int.fdiv_eq_ediv_of_nonneg _ (by decide)]; omega
      · obtain ⟨p, n, vs, e, d, hgp, hpp, hnp⟩ := hv'
        exact ⟨p, e, hnp, ⟨_, hgp⟩, vs, n, hgp, paired_mono (fun _ _ z => z) hpp⟩
    have hPp : P ≠ p := fun q => by rw [← q, hP₂] at hp; cases hp
    have hP₄ : s₄.heap.get? P = some (tabObj #[]) := ot₄.still _ _ hP₂ hPL fun v q => by cases q
    have acc₄ : Acc tInt (Plus (Plus D env.locals) p) p s₄.heap (zerosL a) := by
      obtain ⟨vs, n, e, q⟩ := acc₃
      exact ⟨vs, n, oth₄ p _ e hpL (firm_lst _ _), q⟩
    have npg : g.get? p = none := by
      cases e : g.get? p with
      | none => rfl
      | some o => rw [X.subs p o e] at hp; cases hp
    have npb : (hid s P).heap.get? p = none := keeps_none X.kp hp
    refine ex_cons ?_
    refine ex_def C B X₄ hcode hhd hP₄ hid_none ?_ ?_ (own (by decide +kernel)) fun s₅ s₆ f st₅ hf clo₅ tab₅ X₅ X₆ ot₆ => ?_
    · rintro ((d | d) | d)
      · exact nP d
      · exact hPL d
      · exact hPp d
    · intro y m e
      refine X₄.fm.cellOk y.1 (.inl (K.kd ?_ (by decide)))
      revert y
      decide +kernel
    have hfL : ∀ {b : Addr} {o : Obj}, s₅.heap.get? b = some o → (∀ es ep, o.data ≠ .dict es ep) → b ≠ env.locals := fun {b o} e n q => by
      obtain ⟨m, o', es, ep, e', d', _⟩ := X₅.fm.ns
      rw [q, e'] at e; cases e
      exact n _ _ d'
    have clo₆ : CloAt s₆.heap f "inner" (qualnameIn env "inner" "inner") (paramsOf (innerOf 4)) (bodyOf (innerOf 4)) (scopeOf (innerOf 4)) (freeCells env.cells (scopeOf (innerOf 4)).names []) := by
      obtain ⟨o, doc, pm, c1, ctv, e, d, c2, oc, vs, t, e1, e2, e3, e4⟩ := clo₅
      refine ⟨o, doc, pm, c1, ctv, ot₆.still _ _ e (hfL e fun _ _ q => by rw [d] at q; cases q) (fun v q => by rw [d] at q; cases q), d, c2, oc, vs, t, e1, ot₆.still _ _ e2 (hfL e2 fun _ _ q => by rw [e3] at q; cases q) (fun v q => by rw [e3] at q; cases q), e3, e4⟩
    have tab₆ : ∃ ps, s₆.heap.get? P = some (tabObj ps) := by
      obtain ⟨ps, e⟩ := tab₅
      exact ⟨ps, ot₆.still _ _ e hPL fun v q => by cases q⟩
    have acc₆ : Acc tInt (Plus (Plus D env.locals) p) p s₆.heap (zerosL a) := by
      obtain ⟨vs, n, e, q⟩ := acc₄
      exact ⟨vs, n, (oth_others ot₆) p _ (stepI_get st₅ (fun m => hPp (List.mem_singleton.mp m).symm) e) hpL (firm_lst _ _), q⟩
    have fc : ∀ {x : Str} {e : Ent} {ρ' : Rho}, Ex g (hid s P) (Plus (Plus D env.locals) p) env s₆ ρ' → ρ' x = some e → (scopeOf (stOf P1 4)).names.lookup x = some .cell → (x, NameKind.free) ∈ (scopeOf (innerOf 4)).names →
        ∃ c v, (freeCells env.cells (scopeOf (innerOf 4)).names []).lookup x = some c ∧ s₆.heap.IsCell c (some v) ∧ e.T.is (Plus (Plus D env.locals) p) s₆.heap v e.y := fun X h hk hm => by
      obtain ⟨c, v, hc, hv, ht⟩ := cell_of K X h hk
      exact ⟨c, v, freeCells_of hm hc, hv, ht⟩
    have hlow : ∀ x, (scopeOf (innerOf 4)).names.lookup x = some .free → x ∈ [Str.ofString "a_digits", Str.ofString "inner", Str.ofString "n"] := by
      intro x h
      have := mem_of_lookup h
      have k : ∀ y ∈ (scopeOf (innerOf 4)).names, y.2 = .free → y.1 ∈ [Str.ofString "a_digits", Str.ofString "inner", Str.ofString "n"] := by decide +kernel
      exact k _ this rfl
    have I₆ : Inr g (Plus (Plus D env.locals) p) f p (qualnameIn env "inner" "inner") (freeCells env.cells (scopeOf (innerOf 4)).names []) s₆ (zerosL a) := by
      refine ⟨X₆.subs, X₆.live, clo₆, ?_, ?_, ?_, ⟨fun y c' e => X₆.fm.cells y c' (freeCells_some e), fun y z c' e e' => X₆.fm.apart y z c' (freeCells_some e) (freeCells_some e')⟩, acc₆⟩
      · obtain ⟨c', v', h1, h2, h3⟩ := fc (x := "a_digits") (e := ⟨tVal, .ref p⟩) X₆ (by walk_at "nm") (by decide +kernel) (by decide +kernel)
        cases h3
        exact ⟨c', h1, h2⟩
      · obtain ⟨c', v', h1, h2, h3⟩ := fc (x := "inner") (e := ⟨tVal, .ref f⟩) X₆ (by walk_at "nm") (by decide +kernel) (by decide +kernel)
        cases h3
        exact ⟨c', h1, h2⟩
      · obtain ⟨c', v', h1, h2, t, rfl⟩ := fc (x := "n") (e := ⟨tInt, 1⟩) X₆ (by walk_at "nm") (by decide +kernel) (by decide +kernel)
        exact ⟨c', t, h1, h2⟩
    have hall : ∀ x, (scopeOf (innerOf 4)).names.lookup x = some .free → ∃ c, (freeCells env.cells (scopeOf (innerOf 4)).names []).lookup x = some c := fun x h => by
      have m := hlow x h
      rcases List.mem_cons.mp m with rfl | m
      · exact let ⟨c, h, _⟩ := I₆.cA; ⟨c, h⟩
      rcases List.mem_cons.mp m with rfl | m
      · exact let ⟨c, h, _⟩ := I₆.cI; ⟨c, h⟩
      rcases List.mem_cons.mp m with rfl | m
      · exact let ⟨c, _, h, _⟩ := I₆.cN; ⟨c, h⟩
      cases m
    have zl := zerosL_len a
    -- the end
    have fin : ∀ (t : Shared) (ρ' : Rho) (ds : List Int) (l : List Stmt) (pn pr : Pos), l = [.Return (some (.Name "a_digits" pn)) pr] → Ex g (hid s P) (Plus (Plus D env.locals) p) env t ρ' → ρ' "a_digits" = some ⟨tVal, .ref p⟩ → Acc tInt (Plus (Plus D env.locals) p) p t.heap ds → (∃ ps, t.heap.get? P = some (tabObj ps)) → i2dL a = ds →
        wpAny (model prog w) (A.deeper env) (execs l env) (fun fl s' => (∃ ps, s'.heap.get? P = some (tabObj ps)) ∧ StepI [P] s s' ∧ (tList tInt).is D s'.heap (match fl with | .ret v => v | _ => .none) (i2dL a)) NE t := by
      intro t ρ' ds l pn pr hl' Xt hρ acct tabt hds
      refine ex_cons ?_ hl'
      refine ex_return (P := fun h v => tVal.is (Plus (Plus D env.locals) p) h v (.ref p)) Xt (has_name Xt hρ (by decide +kernel)) fun v' t' k' hv' => ?_
      cases hv'
      obtain ⟨ps, eP⟩ := tabt
      obtain ⟨vs, n, ev, pv⟩ := acc_keeps acct k'
      exact ⟨⟨ps, keeps_get k' eP⟩, stepI_hid (keeps_trans Xt.kp k'), p, n, vs, rfl, fun d => live_none lv hp (.inl d), ev, by rw [hds]; exact paired_mono (fun _ _ z => z) pv⟩
    refine ex_cons ?_
    refine ex_if2 X₆ (b := a != 0) (tst_int ?_) (fun hb s₇ X₇ k₇ => ?_) fun hb s₇ X₇ k₇ => ?_
    · walk_at "v"
    · refine ex_expr ?_ rfl (by unfold interactive; rw [hsc]; rfl)
      have hne : a ≠ 0 := by simpa using hb
      refine wp_call3 (T := tInt) (U := tInt) (V := tInt) (y := a) (z := 0) (t := (zerosL a).length) (f := .ref f) X₇.live ?_ ?_ ?_ (has_int _ _ _) (has_own_len (T := tInt) (xs := zerosL a) C K X₇ (acc_keeps acc₆ k₇) ?_ (by omega)) fun s₈ u v w' k₈ hu hv hw => ?_
      · walk_at "v"
      · obtain ⟨o, _, _, _, _, e, d, _⟩ := clo₆
        exact .inr ⟨_, _, _, rfl, keeps_get k₇ e, d⟩
      · walk_at "v"
      · walk_at "v"
      obtain ⟨t1, rfl⟩ := hu
      obtain ⟨t2, rfl⟩ := hv
      obtain ⟨t3, rfl⟩ := hw
      have I₈ := I₆.step (stepI_keeps (keeps_trans k₇ k₈)) npg (acc_keeps acc₆ (keeps_trans k₇ k₈)) (live_keeps X₇.live k₈)
      have hp1 := hpos hne
      refine wpAny_mono (walk_inner C npg hall 20 (by omega) (.inr rfl) I₈ (R'.less (by omega)) (by omega) (by omega) (by omega) (by omega) (by omega) h0 h1) (fun v s₉ h => ?_) fun _ _ e => e
      obtain ⟨rfl, st₉, acc₉⟩ := h
      obtain ⟨vp8, np8, hp8, _⟩ := I₈.acc
      obtain ⟨vp9, np9, hp9, _⟩ := id acc₉
      have X₉ := (X₇.up k₈).stepOwn st₉ (.inr rfl) npb hp8 (firm_lst _ _) hp9 hpL
      refine ex_nil (fin s₉ _ _ _ _ _ rfl X₉ (by walk_at "nm") acc₉ ?_ (by unfold i2dL; rw [if_pos hb]))
      obtain ⟨ps, eP⟩ := tab₆
      exact ⟨ps, stepI_get st₉ (fun m => hPp (List.mem_singleton.mp m)) (keeps_get (keeps_trans k₇ k₈) eP)⟩
    · refine ex_nil (fin s₇ _ _ _ _ _ rfl X₇ (by walk_at "nm") (acc_keeps acc₆ k₇) ?_ (by unfold i2dL; rw [if_neg (by rw [hb]; decide)]))
      obtain ⟨ps, eP⟩ := tab₆
      exact ⟨ps, keeps_get k₇ eP⟩
end
end Mine

end
section
set_option maxRecDepth 100000
open PySem PySem.W PyProof.Rows PySem.Calls PySem.Challenge
namespace Mine
local macro_rules | `(tactic| walk_at "nm") => `(tactic| repeat (first | with_reducible exact upd_here | with_reducible assumption | (with_reducible refine upd_there ?_ (by decide +kernel)) | (with_reducible refine pick_in ?_ (by decide +kernel))))
local macro_rules | `(tactic| walk_at "v") => `(tactic| (refine' has_name ?X ?h ?d; (case X => assumption); (case h => walk_at "nm"); (case d => decide +kernel)))
local macro_rules | `(tactic| walk_at "un") => `(tactic| first | omega | (have := Rm.units (by assumption); omega))

def valD : Nat → List Int → Int → Int → Int
  | 0, _, _, _ => 0
  | n + 1, ds, L, R => if L + 1 == R then ds.getD L.toNat 0 else valD n ds ((L + R) / 2) R * 2 ^ ((L + R) / 2 - L).toNat + valD n ds L ((L + R) / 2)

theorem valD_bound (ds : List Int) (hd : ∀ i : Nat, 0 ≤ ds.getD i 0 ∧ ds.getD i 0 ≤ 1) : ∀ (n : Nat) (L R : Int), L < R → R - L ≤ n → 0 ≤ valD n ds L R ∧ valD n ds L R + 1 ≤ 2 ^ (R - L).toNat := by
  intro n
  induction n with
  | zero => intro L R h1 h2; omega
  | succ n ih =>
    intro L R h1 h2
    unfold valD
    split
    · rename_i h
      have h : L + 1 = R := by simpa using h
      have := hd L.toNat
      rw [show (R - L).toNat = 1 by omega]
      constructor
      · exact this.1
      · have := this.2; rw [Int.pow_succ, Int.pow_zero]; omega
    · rename_i h
      have h : ¬ L + 1 = R := by simpa using h
      obtain ⟨a1, a2⟩ := ih ((L + R) / 2) R (by omega) (by omega)
      obtain ⟨b1, b2⟩ := ih L ((L + R) / 2) (by omega) (by omega)
      generalize hv : valD n ds ((L + R) / 2) R = v at *
      generalize hw : valD n ds L ((L + R) / 2) = u at *
      generalize hP : (2 : Int) ^ ((L + R) / 2 - L).toNat = P at *
      have hP0 : 0 < P := by rw [← hP]; exact Int.pow_pos (by decide)
      have e : (2 : Int) ^ (R - L).toNat = 2 ^ (R - (L + R) / 2).toNat * P := by
        rw [← hP, ← Int.pow_add]
        congr 1
        omega
      have m1 : 0 ≤ v * P := Int.mul_nonneg a1 (Int.le_of_lt hP0)
      have m2 : (v + 1) * P ≤ 2 ^ (R - (L + R) / 2).toNat * P := Int.mul_le_mul_of_nonneg_right a2 (Int.le_of_lt hP0)
      rw [Int.add_mul, Int.one_mul] at m2
      rw [e]
      omega

def innerOf0 (i : Nat) : Stmt := (bodyOf (stOf P1 i)).getD 0 (.Pass ⟨0, 0, 0, 0⟩)

section
variable {prog : Program} {w : World} {A : Around} {D : Addr → Prop} {s s₁ s₀ : Shared} {g : Heap} {env : Env} {ρ : Rho} {mg mb : Str → Option Value}

structure InD (g : Heap) (D : Addr → Prop) (f : Addr) (qual : Str) (cl : List (Str × Addr)) (s : Shared) (ds : List Int) : Prop where
  sub : Sub g s.heap
  live : Live D s.heap
  clo : CloAt s.heap f "inner" qual (paramsOf (innerOf0 5)) (bodyOf (innerOf0 5)) (scopeOf (innerOf0 5)) cl
  cD : ∃ c v, cl.lookup ("digits" : Str) = some c ∧ s.heap.IsCell c (some v) ∧ (tList tInt).is D s.heap v ds
  cI : ∃ c, cl.lookup ("inner" : Str) = some c ∧ s.heap.IsCell c (some (.ref f))
  cN : ∃ c t, cl.lookup ("n" : Str) = some c ∧ s.heap.IsCell c (some (.int 1 t))
  good : CellsGood s.heap cl

theorem InD.up {f : Addr} {qual : Str} {cl : List (Str × Addr)} {ds : List Int} {D' : Addr → Prop} (x : InD g D f qual cl s ds) (k : Keeps s s₁) (l : Live D' s₁.heap) (hD : ∀ a o, s.heap.get? a = some o → D' a → D a) : InD g D' f qual cl s₁ ds := by
  have kk : ∀ b o, s.heap.get? b = some o → s₁.heap.get? b = some o := fun b o e => keeps_get k e
  obtain ⟨cD, vD, eD, hDc, tD⟩ := x.cD
  obtain ⟨cI, eI, hI⟩ := x.cI
  obtain ⟨cN, tN, eN, hN⟩ := x.cN
  exact ⟨fun b o e => kk b o (x.sub b o e), l, x.clo.up (I := []) (fun b o _ e => kk b o e) (fun b m => nomatch m), ⟨cD, vD, eD, hDc.keeps kk, (tList tInt).mono (keeps_le k D') ((tList tInt).wide hD tD)⟩, ⟨cI, eI, hI.keeps kk⟩, ⟨cN, tN, eN, hN.keeps kk⟩,
    ⟨fun y c e => let ⟨v, hv⟩ := x.good.cell y c e; ⟨v, hv.keeps kk⟩, x.good.apart⟩⟩

theorem inner2_binds (L R : Int) (tL tR : Tok) : ∀ fd : FuncData, fd.params = paramsOf (innerOf0 5) → fd.defaults = .none → fd.kwdefaults = .none →
    bindArgs fd ⟨[.int L tL, .int R tR], []⟩ = pure [(Str.ofString "L", Value.int L tL), (Str.ofString "R", Value.int R tR)] := by
  intro fd h1 h3 h4
  obtain ⟨a1, a2, a3, a4, a5, a6, a7, a8, a9, b1, b2, b3, b4, b5, b6⟩ := fd
  simp only at h1 h3 h4
  subst h1 h3 h4
  rfl

abbrev rhoJ (L R : Int) (ds : List Int) (f : Addr) : Rho := upd (upd (upd (upd (upd (fun _ => none) "n" ⟨tInt, 1⟩) "inner" ⟨tVal, .ref f⟩) "digits" ⟨tList tInt, ds⟩) "R" ⟨tInt, R⟩) "L" ⟨tInt, L⟩

theorem walk_inner2 (C : Cx g mg mb) {f : Addr} {qual : Str} {cl : List (Str × Addr)} {ds : List Int} (hd : ∀ i : Nat, 0 ≤ ds.getD i 0 ∧ ds.getD i 0 ≤ 1) (hall : ∀ x, (scopeOf (innerOf0 5)).names.lookup x = some .free → ∃ c, cl.lookup x = some c) :
    ∀ n : Nat, n ≤ 20 → ∀ {A : Around} {D : Addr → Prop} {s : Shared} {L R : Int} {tL tR : Tok}, InD g D f qual cl s ds → Rm A (n + 2) → 0 ≤ L → L < R → R - L ≤ n → R ≤ ds.length → ds.length ≤ 1000 →
    Has prog w A D s (call (.ref f) [.int L tL, .int R tR]) tInt (valD n ds L R) := by
  intro n
  induction n with
  | zero => intro _ A D s L R tL tR I Rr h0 h1 h2; omega
  | succ n ih =>
    intro hn A D s₀ L R tL tR I₀ Rr h0 h1 h2 h3 h4 s k₀ l₀
    have I := I₀.up k₀ l₀ (fun _ _ _ d => d)
    obtain ⟨cD, vD, eD, hDc, tD⟩ := I.cD
    obtain ⟨cI, eI, hI⟩ := I.cI
    obtain ⟨cN, tN, eN, hN⟩ := I.cN
    refine wp_clo C.W I.sub I.live I.clo (k := n + 2) Rr [("L", .int L tL, ⟨tInt, L⟩), ("R", .int R tR, ⟨tInt, R⟩)] [("digits", vD, ⟨tList tInt, ds⟩), ("inner", .ref f, ⟨tVal, .ref f⟩), ("n", .int 1 tN, ⟨tInt, 1⟩)]
      (fun fd q1 q2 q3 q4 => inner2_binds L R tL tR fd q1 q3 q4) ?_ ?_ I.good ["L", "R"] ["digits", "inner", "n"] rfl rfl (by decide +kernel) (by decide +kernel) (by decide +kernel) hall (by decide +kernel) (fun env hsc R' s₂ X => ?_)
    · intro t m
      rcases List.mem_cons.mp m with rfl | m
      · exact ⟨_, rfl⟩
      rcases List.mem_cons.mp m with rfl | m
      · exact ⟨_, rfl⟩
      cases m
    · intro t m
      rcases List.mem_cons.mp m with rfl | m
      · exact ⟨tD, cD, eD, hDc⟩
      rcases List.mem_cons.mp m with rfl | m
      · exact ⟨rfl, cI, eI, hI⟩
      rcases List.mem_cons.mp m with rfl | m
      · exact ⟨⟨_, rfl⟩, cN, eN, hN⟩
      cases m
    · have K : Kinds (scopeOf (innerOf0 5)) env := kinds_of hsc
      have hun := R'.units
      have kp := X.kp
      have hnew := X.fm.newL
      have own : ∀ {y : Str}, (scopeOf (innerOf0 5)).names.lookup y = some .local → Own s env y := fun h => .inl (K.kd h (by decide))
      have X : Ex g s (Plus D env.locals) env s₂ (rhoJ L R ds f) := X
      have calls : ∀ {t : Shared} {ρ' : Rho} {x y : Int} {ea eb : Expr} {pn pc : Pos}, Ex g s (Plus D env.locals) env t ρ' → ρ' "inner" = some ⟨tVal, .ref f⟩ → Has prog w (A.deeper env) (Plus D env.locals) t (eval ea env) tInt x → Has prog w (A.deeper env) (Plus D env.locals) t (eval eb env) tInt y →
          isStarred ea = false → isStarred eb = false → 0 ≤ x → x < y → y - x ≤ n → y ≤ ds.length → Has prog w (A.deeper env) (Plus D env.locals) t (eval (.Call (.Name "inner" pn) [ea, eb] [] pc) env) tInt (valD n ds x y) := by
        intro t ρ' x y ea eb pn pc Xt hρ ha hb s1 s2 g0 g1 g2 g3
        have It : InD g (Plus D env.locals) f qual cl t ds := I.up Xt.kp Xt.live (plus_wide hnew)
        refine hs_call (has_name Xt hρ (by decide +kernel)) ?_ (hsl_cons ha (hsl_cons hb hsl_nil (st1 s2)) (st1 s1)) (fun s₃ vs k₃ q => ?_) (nost2 s1 s2)
        · obtain ⟨o, _, _, _, _, e, d, _⟩ := It.clo
          exact .inr ⟨_, _, _, rfl, e, d⟩
        · obtain ⟨u, v, rfl, ⟨t1, rfl⟩, ⟨t2, rfl⟩⟩ := q.two
          exact ih (by omega) (It.up k₃ (live_keeps Xt.live k₃) fun _ _ _ d => d) (R'.less (by omega)) g0 g1 g2 g3 h4
      refine ex_cons ?_
      refine ex_if2 X (b := L + 1 == R) (tst_eq (has_add ?_ (has_int _ _ _)) ?_) (fun hb s₃ X₃ k₃ => ?_) fun hb s₃ X₃ k₃ => ?_
      · walk_at "v"
      · walk_at "v"
      · refine ex_ret (T := tInt) (y := valD (n + 1) ds L R) X₃ (fun _ d => .inl d) (fun _ _ a b => ⟨a, b⟩) ?_
        have : valD (n + 1) ds L R = ds.getD L.toNat 0 := by unfold valD; rw [if_pos hb]
        rw [this]
        exact has_item (T := tInt) (xs := ds) (i := L) (by walk_at "v") (by walk_at "v") h0 (by omega) (getD_of 0 (by omega))
      · have hb' : ¬ L + 1 = R := by simpa using hb
        refine ex_nil (ex_cons ?_)
        refine ex_assign (T := tInt) (y := (L + R) / 2) X₃ (Has.val (x := (L + R).fdiv (2 ^ (1 : Int).toNat)) (has_shr (x := L + R) (y := 1) (has_add (x := L) (y := R) ?_ ?_) (has_int _ _ _) (by decide)) ?_) (own (by decide +kernel)) fun s₄ X₄ o₄ => ?_
        · walk_at "v"
        · walk_at "v"
        · rw [Int.fdiv_eq_ediv_of_nonneg _ (by decide)]; rfl
        refine ex_cons ?_
        refine ex_assign (T := tInt) (y := (L + R) / 2 - L) X₄ (Has.val (has_mul (x := (L + R) / 2 - L) (y := 1) (has_sub (x := (L + R) / 2) (y := L) ?_ ?_) ?_ (IntMulOk.of_right (by decide +kernel))) (Int.mul_one _)) (own (by decide +kernel)) fun s₅ X₅ o₅ => ?_
        · walk_at "v"
        · walk_at "v"
        · walk_at "v"
        refine ex_ret (T := tInt) (y := valD (n + 1) ds L R) X₅ (fun _ d => .inl d) (fun _ _ a b => ⟨a, b⟩) ?_
        have : valD (n + 1) ds L R = valD n ds ((L + R) / 2) R * 2 ^ ((L + R) / 2 - L).toNat + valD n ds L ((L + R) / 2) := by rw [valD, if_neg (by simpa using hb')]
        rw [this]
        obtain ⟨b1, b2⟩ := valD_bound ds hd n ((L + R) / 2) R (by omega) (by omega)
        have b3 : (2 : Int) ^ (R - (L + R) / 2).toNat ≤ 2 ^ 20 := by
          have := Nat.pow_le_pow_right (n := 2) (by decide) (show (R - (L + R) / 2).toNat ≤ 20 by omega)
          exact_mod_cast this
        refine has_add (has_shl (x := valD n ds ((L + R) / 2) R) (y := (L + R) / 2 - L) ?_ ?_ (by omega) (by omega) (by omega)) ?_
        · exact calls X₅ (by walk_at "nm") (by walk_at "v") (by walk_at "v") rfl rfl (by omega) (by omega) (by omega) (by omega)
        · walk_at "v"
        · exact calls X₅ (by walk_at "nm") (by walk_at "v") (by walk_at "v") rfl rfl (by omega) (by omega) (by omega) (by omega)

/-- a list's truth -/
theorem tst_list {x : Str} {px : Pos} {α : Type} {T : Ty α} {xs : List α} (he : Has prog w A D s (eval (.Name x px) env) (tList T) xs) (hl : xs.length ≤ 1000) : Tst prog w A D s (.Name x px) env (!xs.isEmpty) := fun s' k l =>
  isTrue_plain (wpAny_mono (he s' k l) (fun v s₁ h => by
    obtain ⟨k1, p, n, vs, rfl, d, hg, hp⟩ := h
    refine wpAny_truthy_list (isList_of hg) (by rw [List.size_toArray, hp.length]; omega) ⟨keeps_trans k1 (keeps_toks _ _), ?_⟩
    have := hp.length
    cases vs <;> cases xs <;> first | rfl | (simp at this)) fun _ _ e => e)

def d2iL (ds : List Int) : Int := if !ds.isEmpty then valD 20 ds 0 ds.length else 0

theorem walk_d2i (C : Cx g mg mb) (B : Bm g mg) {f5 : Value} {P : Addr} (F5 : TabAt4 g mg 5 f5 P) (gP : g.get? P = none) {A : Around} {D : Addr → Prop} {s : Shared} {ds : List Int} {u v : Value} (hd : ∀ i : Nat, 0 ≤ ds.getD i 0 ∧ ds.getD i 0 ≤ 1) (hlen : ds.length ≤ 20)
    (R : Rm A 30) (hg : Sub g s.heap) (hl : Live D s.heap) (hP : s.heap.get? P = some (tabObj #[])) (nP : ¬ D P) (hu : (tList tInt).is D s.heap u ds) (hv : tInt.is D s.heap v 1) :
    wpAny (model prog w) A (call f5 [u, v]) (fun r s' => (∃ ps, s'.heap.get? P = some (tabObj ps)) ∧ StepI [P] s s' ∧ tInt.is D s'.heap r (d2iL ds)) NE s := by
  refine wp_fn (k := 29) C.W hg hl F5.at R [("digits", u, ⟨tList tInt, ds⟩), ("n", v, ⟨tInt, 1⟩)] (fun _ _ _ => by rfl) ?_ (fun env hsc hcd R' own hnew s₂ X => ?_) ["digits", "n"] rfl (by decide +kernel) (by decide +kernel) (by decide +kernel)
  · intro t m
    rcases List.mem_cons.mp m with rfl | m
    · exact hu
    rcases List.mem_cons.mp m with rfl | m
    · exact hv
    cases m
  · obtain ⟨c, hcode, hhd⟩ := hcd P F5
    have hun := R'.units
    have K : Kinds (scopeOf (stOf P1 5)) env := kinds_of hsc
    have hPL : P ≠ env.locals := fun q => by rw [← q, hP] at hnew; cases hnew
    have kp := X.kp
    have hP₂ := keeps_get kp hP
    have X : Ex g (hid s P) (Plus D env.locals) env s₂ (upd (upd (fun _ => none) "n" ⟨tInt, 1⟩) "digits" ⟨tList tInt, ds⟩) := X.base keeps_hid (sub_hid hg gP)
    have own : ∀ {n : Str}, (scopeOf (stOf P1 5)).names.lookup n = some .local ∨ (scopeOf (stOf P1 5)).names.lookup n = some .cell → Own (hid s P) env n := fun h => (own _ h).base keeps_hid
    refine ex_cons ?_
    refine ex_def C B X hcode hhd hP₂ hid_none ?_ ?_ (own (by decide +kernel)) fun s₅ s₆ f st₅ hf clo₅ tab₅ X₅ X₆ ot₆ => ?_
    · rintro (d | d)
      · exact nP d
      · exact hPL d
    · intro y m e
      refine X.fm.cellOk y.1 (.inl (K.kd ?_ (by decide)))
      revert y
      decide +kernel
    have hfL : ∀ {b : Addr} {o : Obj}, s₅.heap.get? b = some o → (∀ es ep, o.data ≠ .dict es ep) → b ≠ env.locals := fun {b o} e n q => by
      obtain ⟨m, o', es, ep, e', d', _⟩ := X₅.fm.ns
      rw [q, e'] at e; cases e
      exact n _ _ d'
    have clo₆ : CloAt s₆.heap f "inner" (qualnameIn env "inner" "inner") (paramsOf (innerOf0 5)) (bodyOf (innerOf0 5)) (scopeOf (innerOf0 5)) (freeCells env.cells (scopeOf (innerOf0 5)).names []) := by
      obtain ⟨o, doc, pm, c1, ctv, e, d, c2, oc, vs, t, e1, e2, e3, e4⟩ := clo₅
      refine ⟨o, doc, pm, c1, ctv, ot₆.still _ _ e (hfL e fun _ _ q => by rw [d] at q; cases q) (fun v q => by rw [d] at q; cases q), d, c2, oc, vs, t, e1, ot₆.still _ _ e2 (hfL e2 fun _ _ q => by rw [e3] at q; cases q) (fun v q => by rw [e3] at q; cases q), e3, e4⟩
    have tab₆ : ∃ ps, s₆.heap.get? P = some (tabObj ps) := by
      obtain ⟨ps, e⟩ := tab₅
      exact ⟨ps, ot₆.still _ _ e hPL fun v q => by cases q⟩
    have fc : ∀ {x : Str} {e : Ent} {ρ' : Rho}, Ex g (hid s P) (Plus D env.locals) env s₆ ρ' → ρ' x = some e → (scopeOf (stOf P1 5)).names.lookup x = some .cell → (x, NameKind.free) ∈ (scopeOf (innerOf0 5)).names →
        ∃ c v, (freeCells env.cells (scopeOf (innerOf0 5)).names []).lookup x = some c ∧ s₆.heap.IsCell c (some v) ∧ e.T.is (Plus D env.locals) s₆.heap v e.y := fun X h hk hm => by
      obtain ⟨c, v, hc, hv, ht⟩ := cell_of K X h hk
      exact ⟨c, v, freeCells_of hm hc, hv, ht⟩
    have hlow : ∀ x, (scopeOf (innerOf0 5)).names.lookup x = some .free → x ∈ [Str.ofString "digits", Str.ofString "inner", Str.ofString "n"] := by
      intro x h
      have := mem_of_lookup h
      have k : ∀ y ∈ (scopeOf (innerOf0 5)).names, y.2 = .free → y.1 ∈ [Str.ofString "digits", Str.ofString "inner", Str.ofString "n"] := by decide +kernel
      exact k _ this rfl
    have I₆ : InD g (Plus D env.locals) f (qualnameIn env "inner" "inner") (freeCells env.cells (scopeOf (innerOf0 5)).names []) s₆ ds := by
      refine ⟨X₆.subs, X₆.live, clo₆, ?_, ?_, ?_, ⟨fun y c' e => X₆.fm.cells y c' (freeCells_some e), fun y z c' e e' => X₆.fm.apart y z c' (freeCells_some e) (freeCells_some e')⟩⟩
      · obtain ⟨c', v', h1, h2, h3⟩ := fc (x := "digits") (e := ⟨tList tInt, ds⟩) X₆ (by walk_at "nm") (by decide +kernel) (by decide +kernel)
        exact ⟨c', v', h1, h2, h3⟩
      · obtain ⟨c', v', h1, h2, h3⟩ := fc (x := "inner") (e := ⟨tVal, .ref f⟩) X₆ (by walk_at "nm") (by decide +kernel) (by decide +kernel)
        cases h3
        exact ⟨c', h1, h2⟩
      · obtain ⟨c', v', h1, h2, t, rfl⟩ := fc (x := "n") (e := ⟨tInt, 1⟩) X₆ (by walk_at "nm") (by decide +kernel) (by decide +kernel)
        exact ⟨c', t, h1, h2⟩
    have hall : ∀ x, (scopeOf (innerOf0 5)).names.lookup x = some .free → ∃ c, (freeCells env.cells (scopeOf (innerOf0 5)).names []).lookup x = some c := fun x h => by
      have m := hlow x h
      rcases List.mem_cons.mp m with rfl | m
      · exact let ⟨c, _, h, _⟩ := I₆.cD; ⟨c, h⟩
      rcases List.mem_cons.mp m with rfl | m
      · exact let ⟨c, h, _⟩ := I₆.cI; ⟨c, h⟩
      rcases List.mem_cons.mp m with rfl | m
      · exact let ⟨c, _, h, _⟩ := I₆.cN; ⟨c, h⟩
      cases m
    refine ex_cons ?_
    refine ex_return (P := fun h v => tInt.is (Plus D env.locals) h v (d2iL ds)) X₆ ?_ fun v' s₇ k₇ hv' => ?_
    · refine has_ifexp (T := tInt) (tst_list (T := tInt) (xs := ds) ?_ (by omega)) (fun hb => ?_) fun hb => ?_
      · walk_at "v"
      · have e : d2iL ds = valD 20 ds 0 ds.length := by unfold d2iL; rw [if_pos hb]
        rw [e]
        have hne : 0 < ds.length := by cases ds with | nil => cases hb | cons _ _ => simp
        refine hs_call (f := .ref f) ?_ ?_ (hsl_cons (T := tInt) (y := 0) (has_int _ _ _) (hsl_cons (T := tInt) (y := ds.length) (e_len C K X₆ (T := tInt) (xs := ds) ?_ (by omega)) hsl_nil (st1 rfl)) (st1 rfl)) (fun s₈ vs k₈ q => ?_) (nost2 rfl rfl)
        · walk_at "v"
        · obtain ⟨o, _, _, _, _, e, d, _⟩ := clo₆
          exact .inr ⟨_, _, _, rfl, e, d⟩
        · walk_at "v"
        · obtain ⟨u', v', rfl, ⟨t1, rfl⟩, ⟨t2, rfl⟩⟩ := q.two
          exact walk_inner2 C hd hall 20 (by omega) (I₆.up k₈ (live_keeps X₆.live k₈) fun _ _ _ d => d) (R'.less (by omega)) (by omega) (by omega) (by omega) (by omega) (by omega)
      · have e : d2iL ds = 0 := by unfold d2iL; rw [if_neg (by rw [hb]; decide)]
        rw [e]
        exact has_int _ _ _
    · obtain ⟨ps, eP⟩ := tab₆
      exact ⟨⟨ps, keeps_get k₇ eP⟩, stepI_hid (keeps_trans X₆.kp k₇), hv'⟩
end
end Mine

end
section
set_option maxRecDepth 100000
open PySem PySem.W PyProof.Rows PySem.Calls PySem.Challenge
namespace Mine
local macro_rules | `(tactic| walk_at "nm") => `(tactic| repeat (first | with_reducible exact upd_here | with_reducible assumption | (with_reducible refine upd_there ?_ (by decide +kernel)) | (with_reducible refine pick_in ?_ (by decide +kernel))))
local macro_rules | `(tactic| walk_at "v") => `(tactic| (refine' has_name ?X ?h ?d; (case X => assumption); (case h => walk_at "nm"); (case d => decide +kernel)))
local macro_rules | `(tactic| walk_at "un") => `(tactic| first | omega | (have := Rm.units (by assumption); omega))
def newsL (arrows : List (Int × Int)) (found : List Int) (here : Int) : List Int := (arrows.filter fun x => x.1 == here && !found.any fun y => decide (y = x.2)).map fun x => x.2
def extL (arrows : List (Int × Int)) (found : List Int) (here : Int) : List Int := found ++ newsL arrows found here
def runL (arrows : List (Int × Int)) : Nat → Nat → List Int → List Int
  | 0, _, found => found
  | n + 1, i, found => match found[i]? with
    | some y => runL arrows n (i + 1) (extL arrows found y)
    | none => found
def foundL (arrows : List (Int × Int)) (first : Int) : List Int := runL arrows (arrows.length + 1) 0 [first]
def reachL (arrows : List (Int × Int)) (first : Int) : List Int := sortL ((foundL arrows first).foldl addKey [])
def openL (arrows : List (Int × Int)) (ys : List Int) : Nat := (arrows.filter fun x => !ys.any fun y => decide (y = x.2)).length
theorem filter_split {α : Type} (p q r : α → Bool) (h1 : ∀ x, p x = true → q x = true) : ∀ l : List α, (∀ x ∈ l, r x = true → q x = true ∧ p x = false) → (l.filter p).length + (l.filter r).length ≤ (l.filter q).length
  | [], _ => by simp
  | x :: l, h2 => by
    have ih := filter_split p q r h1 l fun y m => h2 y (.tail _ m)
    have hx := h2 x (.head _)
    have hp := h1 x
    rw [List.filter_cons, List.filter_cons, List.filter_cons]
    cases ep : p x <;> cases er : r x <;> cases eq : q x <;> simp_all <;> omega
theorem ext_bound (arrows : List (Int × Int)) (ys : List Int) (y : Int) : (extL arrows ys y).length + openL arrows (extL arrows ys y) ≤ ys.length + openL arrows ys := by
  have key := filter_split (fun x : Int × Int => x.1 == y && !ys.any fun z => decide (z = x.2)) (fun x => !ys.any fun z => decide (z = x.2)) (fun x => !(extL arrows ys y).any fun z => decide (z = x.2)) (fun x h => by
    rw [Bool.and_eq_true] at h; exact h.2) arrows fun x m h => by
      rw [Bool.not_eq_true', List.any_eq_false] at h
      have a : (!ys.any fun z => decide (z = x.2)) = true := by
        rw [Bool.not_eq_true', List.any_eq_false]
        exact fun z hz => h z (List.mem_append_left _ hz)
      refine ⟨a, ?_⟩
      cases e : (x.1 == y && !ys.any fun z => decide (z = x.2)) with
      | false => rfl
      | true => exact absurd (by simp) (h x.2 (List.mem_append_right _ (List.mem_map.mpr ⟨x, List.mem_filter.mpr ⟨m, e⟩, rfl⟩)))
  unfold openL
  have e : (extL arrows ys y).length = ys.length + (arrows.filter fun x => x.1 == y && !ys.any fun z => decide (z = x.2)).length := by
    unfold extL newsL; rw [List.length_append, List.length_map]
  rw [e]
  omega
theorem foldl_addKey_len : ∀ (xs ks : List Int), (xs.foldl addKey ks).length ≤ ks.length + xs.length
  | [], _ => Nat.le_refl _
  | x :: xs, ks => by
    rw [List.foldl_cons, List.length_cons]
    have := foldl_addKey_len xs (addKey ks x)
    have := addKey_len ks x
    omega

section
variable {prog : Program} {w : World} {A : Around} {D : Addr → Prop} {s s₁ s₀ : Shared} {g : Heap} {env : Env} {ρ : Rho} {mg mb : Str → Option Value}

abbrev rhoR (arrows : List (Int × Int)) (p : Addr) : Rho := upd (upd (fun _ => none) "arrows" ⟨tList tEdge, arrows⟩) "found" ⟨tVal, .ref p⟩

theorem walk_reached (C : Cx g mg mb) {f7 : Value} (F7 : DefAt P1 g mg 7 f7) {A : Around} {D : Addr → Prop} {s : Shared} {u v : Value} {arrows : List (Int × Int)} {first : Int} (hl : arrows.length ≤ 40)
    (R : Rm A 10) (hg : Sub g s.heap) (hu : (tList tEdge).is D s.heap u arrows) (hv : tInt.is D s.heap v first) : Has prog w A D s (call f7 [u, v]) (tList tInt) (reachL arrows first) := by
  refine hs_fn2 (k := 9) (x := "arrows") (x' := "first") C.W hg F7 R hu hv (by decide +kernel) (by decide +kernel) (by decide +kernel) (by decide +kernel) (fun _ _ _ => by rfl) fun s₁ env ks K hsc R' s₂ D' hD X own => ?_
  have hun := R'.units
  have hh := R'.handled
  have ho : openL arrows [first] ≤ arrows.length := List.length_filter_le _ _
  refine ex_cons ?_
  refine ex_assign_own (P := fun h p => Acc tInt D' p h [first]) X ?_ (own _ (by decide +kernel)) fun s₃ p s₄ k₃ hp hpL acc₃ X₄ oth₄ le₄ ot₄ => ?_
  · refine Hs.weak (has_newlistT (T := tInt) (xs := [first]) (hsl_cons ?_ hsl_nil rfl) (by simp)) fun s' v' k hv' => ?_
    · walk_at "v"
    · obtain ⟨p, n, vs, e, d, hgp, hpp, hnp⟩ := hv'
      exact ⟨p, e, hnp, ⟨_, hgp⟩, vs, n, hgp, hpp⟩
  have acc₄ : Acc tInt (Plus D' p) p s₄.heap [first] := by
    obtain ⟨vs, n, e, q⟩ := acc₃
    exact ⟨vs, n, oth₄ p _ e hpL (firm_lst _ _), q⟩
  have np : s₁.heap.get? p = none := keeps_none X.kp hp
  have X₄' : Ex g s₁ (Plus D' p) env s₄ (rhoR arrows p) := X₄.weak ((RLe.none.upd (by walk_at "nm")).upd (by walk_at "nm"))
  refine ex_cons ?_
  refine ex_for_own (U := tInt) hh X₄' (by walk_at "nm") (own _ (by decide +kernel)) acc₄ hpL
    (fun ys i ρ₁ => ρ₁ = rhoR arrows p ∧ runL arrows (arrows.length + 1 - i) i ys = foundL arrows first ∧ ys.length + openL arrows ys ≤ arrows.length + 1) (fun _ i => arrows.length + 1 - i) ⟨rfl, rfl, by simp; omega⟩ ?_ ?_
  · intro ys i y ρ₁ s₅ hI hy X₅ acc₅ c₅
    obtain ⟨rfl, hr, hb⟩ := hI
    have hi : i < ys.length := (List.getElem?_eq_some_iff.mp hy).1
    have eb := ext_bound arrows ys y
    have hne : (arrows.filter fun x => x.1 == y && !ys.any fun z => decide (z = x.2)).length ≤ arrows.length := List.length_filter_le _ _
    refine ex_cons ?_
    refine ex_extend (U := tInt) (xs := ys) (ys := newsL arrows ys y) X₅ (by walk_at "nm") acc₅ (.inr rfl) np hpL ?_ (by unfold newsL; rw [List.length_map]; omega) (fun s₆ X₆ acc₆ c₆ => ex_nil ⟨extL arrows ys y, rhoR arrows p, X₆.weak ((RLe.none.upd (by walk_at "nm")).upd (by walk_at "nm")), ⟨rfl, ?_, by omega⟩, acc₆, by omega, c₆⟩) ?_
    · refine e_compP K (T := tInt) (T' := tInt) (U := tInt) (xs := arrows) (fun x => x.1 == y && !ys.any fun z => decide (z = x.2)) (fun x => x.2) hh X₅ (iters_list hh ?_) (by omega) (fun x hx env' s' D'' t k' K' X' => tests_one (tst_and2 (tst_eq ?_ ?_) fun _ => tst_own_notin eqOk_int (by omega) (acc_int (acc_keeps acc₅ (keeps_trans k' X'.kp))) ?_ (has_name X' ?_ (by decide +kernel)))) fun x hx _ env' s' D'' t k' K' X' => ?_
      · walk_at "v"
      · walk_at "v"
      · walk_at "v"
      · walk_at "v"
      · walk_at "nm"
      · walk_at "v"
    · rw [← hr, show arrows.length + 1 - i = (arrows.length + 1 - (i + 1)) + 1 by omega]
      conv => rhs; unfold runL
      rw [hy]
    · unfold interactive; rw [hsc]; rfl
  · intro ys i ρ₁ s₅ hI hle X₅ acc₅ c₅
    obtain ⟨rfl, hr, hb⟩ := hI
    have hys : ys = foundL arrows first := by
      rw [← hr]
      cases arrows.length + 1 - i with
      | zero => rfl
      | succ n => unfold runL; rw [List.getElem?_eq_none hle]
    subst hys
    have X₆ := X₅.freeze (s₁ := s₁) (D := D') acc₅ (fun _ _ _ d => .inl d) (fun d => live_none X.live hp d) X.fm.volL (fun b d => X₅.live b (.inl d)) np
    have X₇ := X₆.retype (U := tList tInt) fun _ => tNew_old
    have fl := foldl_addKey_len (foundL arrows first) []
    rw [List.length_nil] at fl
    refine ex_ret (T := tList tInt) (y := reachL arrows first) X₇ hD (fun _ _ a b => ⟨a, b⟩) ?_
    have em : ((((foundL arrows first).filter fun _ => true).map fun x => (x, (1 : Int))).map (·.1)) = foundL arrows first := by
      rw [filter_tt, List.map_map]; exact List.map_id' _
    refine e_sorted C K X₇ hh (Has.val (e_dict C K X₇ hh (e_compN K (T := tInt) (U := tPair tInt tInt) (xs := foundL arrows first) (fun _ => true) (fun x => (x, 1)) X₇ (iters_list hh ?_) (by omega) (fun x m env' s' D'' t k' K' X' => tests_none) fun x m _ env' s' D'' t k' K' X' => has_tuple2 ?_ (has_int _ _ _)) ?_) (by rw [em])) (by omega)
    · walk_at "v"
    · walk_at "v"
    · rw [filter_tt, List.length_map]; omega
end
end Mine

end
section
set_option maxRecDepth 100000
open PySem PySem.W PyProof.Rows PySem.Calls PySem.Challenge
namespace Mine
local macro_rules | `(tactic| walk_at "nm") => `(tactic| repeat (first | with_reducible exact upd_here | with_reducible assumption | (with_reducible refine upd_there ?_ (by decide +kernel)) | (with_reducible refine pick_in ?_ (by decide +kernel))))
local macro_rules | `(tactic| walk_at "v") => `(tactic| (refine' has_name ?X ?h ?d; (case X => assumption); (case h => walk_at "nm"); (case d => decide +kernel)))
local macro_rules | `(tactic| walk_at "un") => `(tactic| first | omega | (have := Rm.units (by assumption); omega))
def bothL (streets : List (Int × Int)) : List (Int × Int) := streets ++ (streets.filter fun _ => true).map fun x => (x.2, x.1)
def togetherL (streets : List (Int × Int)) : Bool := ((reachL (bothL streets) 0).length : Int) == 4
def allL (arrows : List (Int × Int)) : Bool := (((rangeL 0 (4 : Int).toNat).filter fun place => decide (((reachL arrows place).length : Int) < 4)).map fun x => x).isEmpty
theorem run_len (arrows : List (Int × Int)) : ∀ (n i : Nat) (ys : List Int), (runL arrows n i ys).length ≤ ys.length + openL arrows ys
  | 0, _, ys => by unfold runL; omega
  | n + 1, i, ys => by
    unfold runL
    split
    · rename_i y _
      have := run_len arrows n (i + 1) (extL arrows ys y)
      have := ext_bound arrows ys y
      omega
    · omega
theorem reach_len (arrows : List (Int × Int)) (first : Int) : (reachL arrows first).length ≤ arrows.length + 1 := by
  unfold reachL
  rw [(sortL_perm _).length_eq]
  have h1 := foldl_addKey_len (foundL arrows first) []
  have h2 := run_len arrows (arrows.length + 1) 0 [first]
  have h3 : openL arrows [first] ≤ arrows.length := List.length_filter_le _ _
  unfold foundL at h1 ⊢
  simp at h1 h2
  omega
theorem both_len (streets : List (Int × Int)) : (bothL streets).length = streets.length + streets.length := by
  unfold bothL; rw [filter_tt, List.length_append, List.length_map]

section
variable {prog : Program} {w : World} {A : Around} {D : Addr → Prop} {s s₁ s₀ : Shared} {g : Heap} {env : Env} {ρ : Rho} {mg mb : Str → Option Value}
theorem walk_together (C : Cx g mg mb) {f7 f8 : Value} (F7 : DefAt P1 g mg 7 f7) (F8 : DefAt P1 g mg 8 f8) {A : Around} {D : Addr → Prop} {s : Shared} {u : Value} {streets : List (Int × Int)} (hl : streets.length ≤ 20)
    (R : Rm A 20) (hg : Sub g s.heap) (hu : (tList tEdge).is D s.heap u streets) : Has prog w A D s (call f8 [u]) tBool (togetherL streets) := by
  refine hs_fn1 (k := 19) (x := "streets") C.W hg F8 R hu (by decide +kernel) (by decide +kernel) (fun _ _ _ => by rfl) fun s₁ env ks K hsc R' s₂ D' hD X own => ?_
  have hun := R'.units
  have hh := R'.handled
  have bl := both_len streets
  have rl := reach_len (bothL streets) 0
  refine ex_ret (T := tBool) (y := togetherL streets) X hD (fun _ _ a b => ⟨a, b⟩) ?_
  refine has_eq (e_len (T := tInt) (xs := reachL (bothL streets) 0) C K X (e_call2 (tList tEdge) (bothL streets) tInt 0 C K X F7.gl F7.callee (has_addlist (xs := streets) (ys := (streets.filter fun _ => true).map fun x => (x.2, x.1)) ?_ ?_ ?_) (has_int _ _ _) fun t u v k hu hv => walk_reached C F7 (by omega) (R'.less (by omega)) (sub_keeps X.subs k) hu hv) (by omega)) (has_int _ _ _)
  · walk_at "v"
  · refine e_compN K (T := tEdge) (U := tEdge) (xs := streets) (fun _ => true) (fun x => (x.2, x.1)) X (iters_list hh ?_) (by omega) (fun x m env' s' D'' t k' K' X' => tests_none) fun x m _ env' s' D'' t k' K' X' => has_rev ?_ (has_neg (has_int _ _ _))
    · walk_at "v"
    · walk_at "v"
  · rw [filter_tt, List.length_map]; omega

theorem walk_all (C : Cx g mg mb) {f7 f9 : Value} (F7 : DefAt P1 g mg 7 f7) (F9 : DefAt P1 g mg 9 f9) {A : Around} {D : Addr → Prop} {s : Shared} {u : Value} {arrows : List (Int × Int)} (hl : arrows.length ≤ 20)
    (R : Rm A 20) (hg : Sub g s.heap) (hu : (tList tEdge).is D s.heap u arrows) : Has prog w A D s (call f9 [u]) tBool (allL arrows) := by
  refine hs_fn1 (k := 19) (x := "arrows") C.W hg F9 R hu (by decide +kernel) (by decide +kernel) (fun _ _ _ => by rfl) fun s₁ env ks K hsc R' s₂ D' hD X own => ?_
  have hun := R'.units
  have hh := R'.handled
  refine ex_ret (T := tBool) (y := allL arrows) X hD (fun _ _ a b => ⟨a, b⟩) ?_
  refine has_isnil (by omega) (T := tInt) (U := tInt) (e_compN K (T := tInt) (U := tInt) (xs := rangeL 0 (4 : Int).toNat) (fun place => decide (((reachL arrows place).length : Int) < 4)) (fun x => x) X (i_range1 C K X hh (has_int _ _ _) (by decide) (by decide)) (by decide) (fun x m env' s' D'' t k' K' X' => tests_one (tst_lt (e_len (T := tInt) (xs := reachL arrows x) C K' X' (e_call2 (tList tEdge) arrows tInt x C K' X' F7.gl F7.callee ?_ ?_ fun t u v k hu hv => walk_reached C F7 (by omega) (R'.less (by omega)) (sub_keeps X'.subs k) hu hv) ?_) (has_int _ _ _))) fun x m _ env' s' D'' t k' K' X' => ?_) (has_list0 tInt)
  · walk_at "v"
  · walk_at "v"
  · have := reach_len arrows x; omega
  · walk_at "v"
end
end Mine

end
section

open PySem PySem.W PyProof.Rows PySem.Calls PySem.Challenge
namespace Mine
def pairs4 : List (Int × Int) := (rangeL 0 (4 : Int).toNat).flatMap fun other => ((rangeL 0 other.toNat).filter fun _ => true).map fun one => (one, other)
def figs6 (N : Int) : List Int := (i2dL N ++ (List.replicate (6 : Int).toNat [(0 : Int)]).flatten).take (6 : Int).toNat
def streetsL (N : Int) : List (Int × Int) := ((enumL 0 pairs4).filter fun x => (figs6 N).getD x.1.toNat 0 == 1).map fun x => x.2
def lessL (st : List (Int × Int)) (x : Int × Int) : List (Int × Int) := (st.filter fun one => !decide (one = x)).map fun one => one
def bridgesL (st : List (Int × Int)) : List (Int × Int) := (st.filter fun x => togetherL st && !togetherL (lessL st x)).map fun x => x
def arrowsL (st : List (Int × Int)) (way : Int) : List (Int × Int) := ((enumL 0 st).filter fun _ => true).map fun x => if (way.fdiv (2 ^ x.1.toNat)).fmod 2 == 0 then x.2 else (x.2.2, x.2.1)
def comesL (left : List Int) (place : Int) (x : Int × Int) : Bool := x.2 == place && left.any fun y => decide (y = x.1)
def keepL (arrows : List (Int × Int)) (left : List Int) (place : Int) : Bool := !((arrows.filter (comesL left place)).map fun _ => (1 : Int)).isEmpty
def stepLeft (arrows : List (Int × Int)) (left : List Int) (_ : Int) : List Int := (left.filter (keepL arrows left)).map fun place => place
def leftL (arrows : List (Int × Int)) : List Int := (rangeL 0 (4 : Int).toNat).foldl (stepLeft arrows) [0, 1, 2, 3]
def endsL (place : Int) (x : Int × Int) : Bool := x.2 == place
def bareL (arrows : List (Int × Int)) (place : Int) : Bool := ((arrows.filter (endsL place)).map fun _ => (1 : Int)).isEmpty
def noinL (arrows : List (Int × Int)) : Bool := (((rangeL 0 (4 : Int).toNat).filter (bareL arrows)).map fun place => place).isEmpty
def stepWay (st : List (Int × Int)) (b : List (List (Int × Int)) × Int) (way : Int) : List (List (Int × Int)) × Int :=
  (if decide ((st.length : Int) ≥ 4) && allL (arrowsL st way) then b.1 ++ [arrowsL st way] else b.1, if (leftL (arrowsL st way)).isEmpty then b.2 + 1 else b.2)
def waysN (st : List (Int × Int)) : List Int := rangeL 0 ((2 : Int) ^ ((st.length : Int)).toNat).toNat
def goodsL (st : List (Int × Int)) : List (List (Int × Int)) × Int := (waysN st).foldl (stepWay st) ([], 0)
def rows4 : List (List Int) := ((rangeL 0 (4 : Int).toNat).filter fun _ => true).map fun _ => []
def stepO (b : List (List Int) × List (List Int)) (x : Int × Int) : List (List Int) × List (List Int) := (addTo b.1 x.1 x.2, addTo b.2 x.2 x.1)
def okO (b : List (List Int) × List (List Int)) (x : Int × Int) : Bool :=
  decide (0 ≤ x.1) && decide (x.1 < 4) && decide (0 ≤ x.2) && decide (x.2 < 4) && !(rowsAt b.1 x.1).contains x.2 && !(rowsAt b.2 x.2).contains x.1 && decide ((rowsAt b.1 x.1).length ≤ 100) && decide ((rowsAt b.2 x.2).length ≤ 100)
def freshO : List (List Int) × List (List Int) → List (Int × Int) → Bool
  | _, [] => true
  | b, x :: r => okO b x && freshO (stepO b x) r
def tallyO (arrows : List (Int × Int)) : List (List Int) × List (List Int) := arrows.foldl stepO (rows4, rows4)
def countR (rows : List (List Int)) : List Int := (rows.filter fun _ => true).map fun r => r.length
def turnedL (arrows : List (Int × Int)) : List (Int × Int) := (arrows.filter fun _ => true).map fun x => (x.2, x.1)
def cutL (st : List (Int × Int)) (x : Int × Int) : List (Int × Int) := ((bothL st).filter fun y => !([(x.1, x.2), (x.2, x.1)] : List (Int × Int)).any fun z => decide (z = y)).map fun y => y

structure Fine1 (N : Int) : Prop where
  n0 : 0 ≤ N
  n1 : N < 2 ^ 20
  bit : Builtin.Int.intBits N ≤ 20
  pos : N ≠ 0 → 1 ≤ Builtin.Int.intBits N
  digs : ∀ i : Nat, 0 ≤ (figs6 N).getD i 0 ∧ (figs6 N).getD i 0 ≤ 1
  d2i : d2iL (figs6 N) = N
  ways : ∀ way ∈ waysN (streetsL N), (leftL (arrowsL (streetsL N) way)).isEmpty = true → noinL (arrowsL (streetsL N) way) = false
  robbins : (((!(goodsL (streetsL N)).1.isEmpty) != (togetherL (streetsL N) && (bridgesL (streetsL N)).isEmpty)) || ((goodsL (streetsL N)).2 == 0)) = false
  fresh : ∀ arrows ∈ (goodsL (streetsL N)).1, freshO (rows4, rows4) arrows = true
  rows : ∀ arrows ∈ (goodsL (streetsL N)).1, (decide (leastL (countR ((tallyO arrows).1 ++ (tallyO arrows).2)) < 1) || ((countR (tallyO arrows).1).sum != ((streetsL N).length : Int))) = false
  turned : ∀ arrows ∈ (goodsL (streetsL N)).1, allL (turnedL arrows) = true
  cut : ∀ x ∈ bridgesL (streetsL N), ((reachL (cutL (streetsL N) x) x.1).any fun y => decide (y = x.2)) = false

theorem pairs4_len : pairs4.length = 6 := by decide +kernel
theorem figs6_len (N : Int) : (figs6 N).length = 6 := by
  unfold figs6
  rw [List.length_take, List.length_append, List.length_flatten, List.map_replicate, List.sum_replicate_nat]
  simp
theorem enumL_mem {α : Type} : ∀ {l : List α} {i : Int} {x : Int × α}, x ∈ enumL i l → i ≤ x.1 ∧ x.1 < i + l.length ∧ x.2 ∈ l
  | [], _, _, h => nomatch h
  | y :: l, i, x, h => by
    cases h with
    | head => exact ⟨Int.le_refl _, by simp; omega, .head _⟩
    | tail _ h =>
      obtain ⟨a, b, c⟩ := enumL_mem h
      exact ⟨by omega, by simp at b ⊢; omega, .tail _ c⟩
theorem enumL_len {α : Type} : ∀ (l : List α) (i : Int), (enumL i l).length = l.length
  | [], _ => rfl
  | _ :: l, i => by rw [enumL, List.length_cons, List.length_cons, enumL_len l]
theorem streetsL_len (N : Int) : (streetsL N).length ≤ 6 := by
  unfold streetsL
  rw [List.length_map]
  exact Nat.le_trans (List.length_filter_le _ _) (Nat.le_of_eq ((enumL_len _ _).trans pairs4_len))
theorem lessL_len (st : List (Int × Int)) (x : Int × Int) : (lessL st x).length ≤ st.length := by
  unfold lessL; rw [List.length_map]; exact List.length_filter_le _ _
theorem bridgesL_len (st : List (Int × Int)) : (bridgesL st).length ≤ st.length := by
  unfold bridgesL; rw [List.length_map]; exact List.length_filter_le _ _
theorem arrowsL_len (st : List (Int × Int)) (way : Int) : (arrowsL st way).length = st.length := by
  unfold arrowsL; rw [List.length_map, filter_tt, enumL_len]
theorem stepLeft_len (arrows : List (Int × Int)) (left : List Int) (k : Int) : (stepLeft arrows left k).length ≤ left.length := by
  unfold stepLeft; rw [List.length_map]; exact List.length_filter_le _ _
theorem foldLeft_len (arrows : List (Int × Int)) : ∀ (ks left : List Int), (ks.foldl (stepLeft arrows) left).length ≤ left.length
  | [], _ => Nat.le_refl _
  | k :: ks, left => Nat.le_trans (foldLeft_len arrows ks _) (stepLeft_len arrows left k)
theorem foldWay_len (st : List (Int × Int)) : ∀ (ks : List Int) (b : List (List (Int × Int)) × Int), (ks.foldl (stepWay st) b).1.length ≤ b.1.length + ks.length
  | [], _ => Nat.le_refl _
  | k :: ks, b => by
    rw [List.foldl_cons, List.length_cons]
    have h1 := foldWay_len st ks (stepWay st b k)
    have h2 : (stepWay st b k).1.length ≤ b.1.length + 1 := by
      unfold stepWay; dsimp only; split <;> simp
    omega
theorem foldWay_each (st : List (Int × Int)) : ∀ (ks : List Int) (b : List (List (Int × Int)) × Int), (∀ a ∈ b.1, a.length = st.length) → ∀ a ∈ (ks.foldl (stepWay st) b).1, a.length = st.length
  | [], _, h => h
  | k :: ks, b, h => foldWay_each st ks (stepWay st b k) fun a m => by
    unfold stepWay at m
    dsimp only at m
    split at m
    · rcases List.mem_append.mp m with m | m
      · exact h a m
      · rw [List.mem_singleton.mp m, arrowsL_len]
    · exact h a m
theorem rows4_len : rows4.length = 4 := by decide +kernel
theorem stepO_len (b : List (List Int) × List (List Int)) (x : Int × Int) : (stepO b x).1.length = b.1.length ∧ (stepO b x).2.length = b.2.length := ⟨addTo_len _ _ _, addTo_len _ _ _⟩
theorem foldO_len : ∀ (l : List (Int × Int)) (b : List (List Int) × List (List Int)), (l.foldl stepO b).1.length = b.1.length ∧ (l.foldl stepO b).2.length = b.2.length
  | [], _ => ⟨rfl, rfl⟩
  | x :: l, b => by
    have h := foldO_len l (stepO b x)
    have h2 := stepO_len b x
    exact ⟨h.1.trans h2.1, h.2.trans h2.2⟩
theorem freshO_at : ∀ {done : List (Int × Int)} {b : List (List Int) × List (List Int)} {x : Int × Int} {rem : List (Int × Int)}, freshO b (done ++ x :: rem) = true → okO (done.foldl stepO b) x = true
  | [], b, x, rem, h => by
    simp only [List.nil_append, freshO, Bool.and_eq_true] at h
    exact h.1
  | y :: done, b, x, rem, h => by
    simp only [List.cons_append, freshO, Bool.and_eq_true] at h
    exact freshO_at (done := done) h.2
theorem cutL_len (st : List (Int × Int)) (x : Int × Int) : (cutL st x).length ≤ st.length + st.length := by
  unfold cutL; rw [List.length_map, ← both_len]; exact List.length_filter_le _ _
end Mine

end
section
set_option maxRecDepth 100000
open PySem PySem.W PyProof.Rows PySem.Calls PySem.Challenge
namespace Mine
section
variable {prog : Program} {w : World} {A : Around} {D : Addr → Prop} {s s₁ s₀ : Shared} {g : Heap} {env : Env} {ρ : Rho} {mg mb : Str → Option Value}
/-- calls[one] = add_callers(calls[one], {(a, other, b): 1}) -/
theorem ex_tallyB {a b : Str} {cx fx o1 : Str} {pc pc' pf pk po po' ps ps' pt pd p1 pp pcall pos : Pos} {kk nn k1 : Nat} {eo : Expr} {sc : Scope} (C : Cx g mg mb) (K : Kinds sc env) {f1 : Value} (F1 : DefAt P1 g mg 1 f1) (hfx : fx = nameOf (stOf P1 1)) {rows : List (List Int)} {p : Addr} {i k : Int} {Q : Flow → Shared → Prop} {E : Value → Shared → Prop}
    (X : Ex g s₀ D env s ρ) (R : Rm A 3) (acc : Acc (tRow prog w a b) D p s.heap rows) (dp : D p) (np : s₀.heap.get? p = none) (hL : p ≠ env.locals)
    (hc : ∀ (s' : Shared) (pp : Pos), Keeps s s' → Has prog w A D s' (eval (.Name cx pp) env) tVal (.ref p)) (hi : ∀ (s' : Shared) (pp : Pos), Keeps s s' → Has prog w A D s' (eval (.Name o1 pp) env) tInt i)
    (ha : Has prog w A D s (eval (.Constant (.str a) nn pk) env) tStr a) (hk : Has prog w A D s (eval eo env) tInt k)
    (h0 : 0 ≤ i) (hlt : i < rows.length) (hn : k ∉ rowsAt rows i) (hl : (rowsAt rows i).length ≤ 100) (hr : rows.length ≤ 100)
    (hg : sc.names.lookup fx = some .globalImplicit) (st : isStarred eo = false)
    (q : ∀ s', Ex g s₀ D env s' ρ → Acc (tRow prog w a b) D p s'.heap (addTo rows i k) → Calm D s s' → (∀ b o, b ≠ p → s.heap.get? b = some o → s'.heap.get? b = some o) → Q .next s') :
    wpAny (model prog w) A (exec (.Assign [.Subscript (.Name cx pc) (.Name o1 po) ps] (.Call (.Name fx pf) [.Subscript (.Name cx pc') (.Name o1 po') ps', .Dict [some (.Tuple [.Constant (.str a) nn pk, eo, .Constant (.str b) k1 p1] kk pt)] [.Constant (.int 1) 0 pd] pp] [] pcall) pos) env) Q E s := by
  have hun := R.units
  subst hfx
  refine ex_own_setB (T := tRow prog w a b) (y := rowsAt rows i ++ [k]) X acc dp np hL ?_ (hc s _ (keeps_refl s)) (hi s _ (keeps_refl s)) h0 hlt (by omega) q
  refine e_call2 (tRow prog w a b) (rowsAt rows i) (tRow prog w a b) [k] C K X F1.gl F1.callee ?_ ?_ (fun s₁ u v k₁ hu hv => ?_) hg (by decide +kernel)
  · exact has_own_item (T := tRow prog w a b) acc (hc s _ (keeps_refl s)) (hi s _ (keeps_refl s)) h0 (by omega) (getD_of [] (by omega))
  · exact has_row1 C X (by omega) (has_key ha hk (has_str _ _ _) rfl st rfl) (has_int _ _ _)
  · have nd : (rowsAt rows i).Nodup := by
      obtain ⟨d, _, _, _, r⟩ := hu
      exact row_nodup r
    exact walk_add C F1 (nodup_snoc nd hn) (show (rowsAt rows i).length + 1 ≤ 500 by omega) (R.less (by omega)) (sub_keeps X.subs k₁) hu hv


theorem walk_countE {a b c d : Str} (C : Cx g mg mb) {f2 : Value} (F2 : DefAt P1 g mg 2 f2) {A : Around} {D : Addr → Prop} {s : Shared} {v : Value} {ks : List Int} (R : Rm A 3) (hg : Sub g s.heap) (hv : (tEither (tRow prog w a b) (tRow prog w c d)).is D s.heap v ks) : Has prog w A D s (call f2 [v]) tInt ks.length :=
  hv.elim (fun h => walk_count C F2 (R.less (by omega)) hg h) (fun h => walk_count C F2 (R.less (by omega)) hg h)
theorem calm_back {q r : Addr} {s s' s'' : Shared} (hq : s.heap.get? q = none) (hr : s.heap.get? r = none) (c : Calm D s s') (c' : Calm (Plus (Plus D q) r) s' s'') : Calm D s s'' :=
  ⟨fun b o n f e => c'.le b o (fun d => by
    rcases d with (d | rfl) | rfl
    · exact n d
    · rw [hq] at e; cases e
    · rw [hr] at e; cases e) f (c.le b o n f e), fun b o vs e d => c'.fields b o vs (c.fields b o vs e d) d⟩
theorem rows4_nil : ∀ x ∈ rows4, x = [] := fun x m => by
  obtain ⟨_, _, rfl⟩ := List.mem_map.mp m
  rfl
end
end Mine

end
section
set_option maxRecDepth 100000
open PySem PySem.W PyProof.Rows PySem.Calls PySem.Challenge
namespace Mine
local macro_rules | `(tactic| walk_at "nm") => `(tactic| repeat (first | with_reducible exact upd_here | with_reducible assumption | (with_reducible refine upd_there ?_ (by decide +kernel)) | (with_reducible refine pick_in ?_ (by decide +kernel))))
local macro_rules | `(tactic| walk_at "v") => `(tactic| (refine' has_name ?X ?h ?d; (case X => assumption); (case h => walk_at "nm"); (case d => decide +kernel)))
local macro_rules | `(tactic| walk_at "un") => `(tactic| first | omega | (have := Rm.units (by assumption); omega))
section
variable {prog : Program} {w : World} {A : Around} {D : Addr → Prop} {s s₁ s₀ : Shared} {g : Heap} {env : Env} {ρ : Rho} {mg mb : Str → Option Value}
def number1 (ns : List Int) : Int := (if ns.sum < 0 then -ns.sum else ns.sum).fmod 64

set_option maxHeartbeats 8000000 in
theorem walk_law (C : Cx g mg mb) (B : Bm g mg) {f1 f2 f4 f5 f7 f8 f9 f10 : Value} {P4 P5 : Addr} (F1 : DefAt P1 g mg 1 f1) (F2 : DefAt P1 g mg 2 f2) (F4 : TabAt4 g mg 4 f4 P4) (F5 : TabAt4 g mg 5 f5 P5) (F7 : DefAt P1 g mg 7 f7) (F8 : DefAt P1 g mg 8 f8) (F9 : DefAt P1 g mg 9 f9) (F10 : DefAt P1 g mg 10 f10)
    (g4 : g.get? P4 = none) (g5 : g.get? P5 = none) (h45 : P4 ≠ P5) {A : Around} {s : Shared} {v : Value} {ns : List Int} (R : Rm A 60) (hg : Sub g s.heap) (hP4 : s.heap.get? P4 = some (tabObj #[])) (hP5 : s.heap.get? P5 = some (tabObj #[]))
    (hl : ns.length ≤ 63) (hv : (tList tInt).is (fun _ => False) s.heap v ns) (fine : Fine1 (number1 ns)) :
    wpAny (model prog w) A (call f10 [v]) (fun r s' => r = .bool true ∧ Keeps { s with heap := g } s' ∧ (∃ ps, s'.heap.get? P4 = some (tabObj ps)) ∧ ∃ ps, s'.heap.get? P5 = some (tabObj ps)) NE s := by
  refine wp_fn (k := 59) C.W hg (D := fun _ => False) (fun _ d => d.elim) F10 R [("script", v, ⟨tList tInt, ns⟩)] (fun _ _ _ => by rfl) ?_ (fun env hsc _ R' own hnew s₂ X => ?_) ["script"] rfl (by decide +kernel) (by decide +kernel) (by decide +kernel)
  · intro t m
    rcases List.mem_cons.mp m with rfl | m
    · exact hv
    cases m
  have hun := R'.units
  have hh := R'.handled
  have K : Kinds (scopeOf (stOf P1 10)) env := kinds_of hsc
  have hP4L : P4 ≠ env.locals := fun q => by rw [← q, hP4] at hnew; cases hnew
  have hP5L : P5 ≠ env.locals := fun q => by rw [← q, hP5] at hnew; cases hnew
  have kp := X.kp
  have kb : Keeps { s with heap := g } s := ⟨s.heap, s.toks, rfl, fun b o e => hg b o e⟩
  have own : ∀ {n : Str}, (scopeOf (stOf P1 10)).names.lookup n = some .local ∨ (scopeOf (stOf P1 10)).names.lookup n = some .cell → Own { s with heap := g } env n := fun h => (own _ h).base kb
  have X : Ex g { s with heap := g } (Plus (fun _ => False) env.locals) env s₂ (upd (fun _ => none) "script" ⟨tList tInt, ns⟩) := X.base kb (fun _ _ e => e)
  obtain ⟨N, hN⟩ : ∃ N, number1 ns = N := ⟨_, rfl⟩
  rw [hN] at fine
  unfold number1 at hN
  have hP4₂ := keeps_get kp hP4
  have hP5₂ := keeps_get kp hP5
  -- pairs
  refine ex_cons ?_
  refine ex_comp2 K (blockOf hsc) (T := tInt) (T' := tInt) (U := tEdge) (xs := rangeL 0 (4 : Int).toNat) (fun other => rangeL 0 other.toNat) (fun _ _ => true) (fun other one => (one, other)) X (i_range1 C K X hh (has_int _ _ _) (by omega) (by omega)) (by decide +kernel) (fun x hx => ?_)
    (fun x hx env' s' D' t k' K' X' => i_range1 C K' X' hh ?_ ?_ ?_) (fun x hx y hy env' s' D' t k' K' X' => tests_none) (fun x hx y hy _ env' s' D' t k' K' X' => ?_) fun s₄ X₄ o₄ => ?_
  · have := mem_rangeL hx
    rw [rangeL_len]; omega
  · walk_at "v"
  · have := mem_rangeL hx; omega
  · have := mem_rangeL hx; omega
  · exact has_tuple2 (by walk_at "v") (by walk_at "v")
  have X₄ : Ex g { s with heap := g } (Plus (fun _ => False) env.locals) env s₄ (upd (upd (fun _ => none) "script" ⟨tList tInt, ns⟩) "pairs" ⟨tList tEdge, pairs4⟩) := X₄
  -- number
  refine ex_cons ?_
  refine ex_assign (T := tInt) (y := N) X₄ (Has.val (has_mod (e_abs C K X₄ (e_sum C K X₄ hh ?_)) (has_int _ _ _) (by decide)) hN) (own (by decide +kernel)) fun s₅ X₅ o₅ => ?_
  · walk_at "v"
  have still : ∀ {a b : Shared} {P : Addr} {ps : Array Value}, Others (Plus (fun _ => False) env.locals) env a b → P ≠ env.locals → a.heap.get? P = some (tabObj ps) → b.heap.get? P = some (tabObj ps) := fun o n e => o.still _ _ e n fun v q => by cases q
  have hP4₅ := still o₅ hP4L (still o₄ hP4L hP4₂)
  have hP5₅ := still o₅ hP5L (still o₄ hP5L hP5₂)
  have nP4 : ¬ Plus (fun _ => False) env.locals P4 := fun d => d.elim id hP4L
  have nP5 : ¬ Plus (fun _ => False) env.locals P5 := fun d => d.elim id hP5L
  -- figures
  refine ex_cons ?_
  refine wpAny_Assign_Name ?_ rfl
  refine Subscript_ (wpAny_BinOp ?_)
  refine wp_call2 (T := tInt) (U := tInt) (y := N) (z := 1) (f := f4) X₅.live ?_ (F4.at.callee.sub X₅.subs) ?_ (has_int _ _ _) fun s₆ u v' k₆ hu hv' => ?_
  · exact has_gl C K X₅ (by decide +kernel) F4.at.gl (by decide +kernel)
  · walk_at "v"
  have X₆ := X₅.up k₆
  refine wpAny_mono (walk_i2d C B F4 g4 fine.n0 fine.n1 fine.bit fine.pos (R'.less (by omega)) X₆.subs X₆.live (keeps_get k₆ hP4₅) nP4 hu hv') (fun r s₇ h => ?_) fun _ _ e => e
  obtain ⟨tab₇, st₇, hr⟩ := h
  obtain ⟨X₇, oth₇⟩ := X₆.tab st₇ (keeps_get k₆ hP4₅) g4 nP4
  have hP5₇ : s₇.heap.get? P5 = some (tabObj #[]) := stepI_get st₇ (fun q => h45 (List.mem_singleton.mp q).symm) (keeps_get k₆ hP5₅)
  have il : (i2dL N).length ≤ 20 := by rw [i2dL_len]; exact fine.bit
  have zl : (List.replicate (6 : Int).toNat [(0 : Int)]).flatten.length = 6 := by decide +kernel
  refine (has_mullist (T := tInt) (xs := [0]) (n := 6) (has_list1 (has_int _ _ _) rfl) (has_int _ _ _) (by decide) (by decide) (by simp)).use X₇.live fun z s₈ k₈ hz => ?_
  refine (bin_addlist (T := tInt) ((tList tInt).mono (keeps_le k₈ _) hr) hz (by omega)).use (live_keeps X₇.live k₈) fun z2 s₉ k₉ hz2 => ?_
  have X₉ := X₇.up (keeps_trans k₈ k₉)
  refine wp_upto X₉.live hz2 (has_int _ _ _) (by decide) (by rw [List.length_append]; omega) fun z3 s₁₀ k₁₀ hz3 => ?_
  refine (X₉.up k₁₀).store (T := tList tInt) (y := figs6 N) (own (by decide +kernel)) hz3 fun s₁₁ X₁₁ o₁₁ => ?_
  have k710 := keeps_trans (keeps_trans k₈ k₉) k₁₀
  have tab₁₁ : ∃ ps, s₁₁.heap.get? P4 = some (tabObj ps) := by
    obtain ⟨ps, e⟩ := tab₇
    exact ⟨ps, still o₁₁ hP4L (keeps_get k710 e)⟩
  have hP5₁₁ := still o₁₁ hP5L (keeps_get k710 hP5₇)
  -- the figures told back
  refine ex_cons ?_
  refine wpAny_If ?_
  refine wpAny_isTrue_Compare1 ?_ rfl
  refine wp_call2 (T := tList tInt) (U := tInt) (y := figs6 N) (z := 1) (f := f5) X₁₁.live ?_ (F5.at.callee.sub X₁₁.subs) ?_ (has_int _ _ _) fun s₁₂ u v' k₁₂ hu hv' => ?_
  · exact has_gl C K X₁₁ (by decide +kernel) F5.at.gl (by decide +kernel)
  · walk_at "v"
  have X₁₂ := X₁₁.up k₁₂
  refine wpAny_mono (walk_d2i C B F5 g5 fine.digs (by rw [figs6_len]; omega) (R'.less (by omega)) X₁₂.subs X₁₂.live (keeps_get k₁₂ hP5₁₁) nP5 hu hv') (fun r s₁₃ h => ?_) fun _ _ e => e
  obtain ⟨tab₁₃, st₁₃, hr⟩ := h
  obtain ⟨X₁₃, oth₁₃⟩ := X₁₂.tab st₁₃ (keeps_get k₁₂ hP5₁₁) g5 nP5
  have tab4₁₃ : ∃ ps, s₁₃.heap.get? P4 = some (tabObj ps) := by
    obtain ⟨ps, e⟩ := tab₁₁
    exact ⟨ps, stepI_get st₁₃ (fun q => h45 (List.mem_singleton.mp q)) (keeps_get k₁₂ e)⟩
  refine Hs.use (P := fun h v => tInt.is (Plus (fun _ => False) env.locals) h v N) ?_ X₁₃.live fun z s₁₄ k₁₄ hz => ?_
  · walk_at "v"
  refine (cmp_ne (tInt.mono (keeps_le k₁₄ _) hr) hz).use (live_keeps X₁₃.live k₁₄) fun c s₁₅ k₁₅ hc => ?_
  cases hc
  refine wpAny_truthy_bool ?_
  rw [show (d2iL (figs6 N) != N) = false by rw [fine.d2i]; simp]
  refine ex_nil ?_
  have k1315 := keeps_trans k₁₄ k₁₅
  have X₁₅ := X₁₃.up k1315
  have t4 : ∃ ps, s₁₅.heap.get? P4 = some (tabObj ps) := let ⟨ps, e⟩ := tab4₁₃; ⟨ps, keeps_get k1315 e⟩
  have t5 : ∃ ps, s₁₅.heap.get? P5 = some (tabObj ps) := let ⟨ps, e⟩ := tab₁₃; ⟨ps, keeps_get k1315 e⟩
  -- streets
  have pl := pairs4_len
  refine ex_cons ?_
  refine ex_assign (T := tList tEdge) (y := streetsL N) X₁₅ ?_ (own (by decide +kernel)) (fun s₁₆ X₁₆ o₁₆ => ?_) (swaps_no K (by decide +kernel))
  · refine e_compP K (T := tInt) (T' := tEdge) (U := tEdge) (xs := enumL 0 pairs4) (fun x => (figs6 N).getD x.1.toNat 0 == 1) (fun x => x.2) hh X₁₅ (i_enum C K X₁₅ hh ?_) (by rw [enumL_len]; omega) (fun x hx env' s' D' t k' K' X' => tests_one (tst_eq ?_ (has_int _ _ _))) fun x hx _ env' s' D' t k' K' X' => ?_
    · walk_at "v"
    · have hx' := enumL_mem hx
      refine has_item (T := tInt) (xs := figs6 N) (i := x.1) ?_ ?_ (by omega) (by omega) (getD_of 0 (by rw [figs6_len]; omega))
      · walk_at "v"
      · walk_at "v"
    · walk_at "v"
  have sl := streetsL_len N
  have ways := fine.ways
  have robbins := fine.robbins
  have fresh := fine.fresh
  have rows := fine.rows
  have turned := fine.turned
  have cut := fine.cut
  generalize hS : streetsL N = st at X₁₆ sl ways robbins fresh rows turned cut
  -- bridges
  have bl := bridgesL_len st
  refine ex_cons ?_
  refine ex_compM K (blockOf hsc) (T := tEdge) (U := tEdge) (xs := st) (fun x => togetherL st && !togetherL (lessL st x)) (fun x => x) X₁₆ (iters_list hh ?_) (by omega) (fun x hx env' s' D' t k' K' X' => tests_one (tst_and2 (tst_has (e_call1 (tList tEdge) st C K' X' F8.gl F8.callee ?_ fun t v k hv => walk_together C F7 F8 (by omega) (R'.less (by omega)) (sub_keeps X'.subs k) hv)) fun _ => tst_not (tst_has (e_call1 (tList tEdge) (lessL st x) C K' X' F8.gl F8.callee ?_ fun t v k hv => walk_together C F7 F8 ?_ (R'.less (by omega)) (sub_keeps X'.subs k) hv)))) (fun x hx _ env' s' D' t k' K' X' => ?_) fun s₁₇ pb hpb X₁₇ acc₁₇ hpbL o₁₇ => ?_
  · walk_at "v"
  · walk_at "v"
  · refine e_compN K' (T := tEdge) (U := tEdge) (xs := st) (fun one => !decide (one = x)) (fun one => one) X' (iters_list hh ?_) (by omega) (fun y hy env' s' D' t k' K' X' => tests_one (tst_neE (by omega) ?_ ?_)) fun y hy _ env' s' D' t k' K' X' => ?_
    · walk_at "v"
    · walk_at "v"
    · walk_at "v"
    · walk_at "v"
  · have := lessL_len st x; omega
  · walk_at "v"
  have hDb : ∀ b o, s₁₇.heap.get? b = some o → Plus (fun _ => False) env.locals b → Plus (Plus (fun _ => False) env.locals) pb b := fun _ _ _ d => .inl d
  have X₁₇ := (X₁₇.freeze (s₁ := { s with heap := g }) (D := Plus (fun _ => False) env.locals) acc₁₇ hDb (fun d => live_none X₁₆.live hpb d) X₁₆.fm.volL (fun b d => X₁₇.live b (.inl d)) (keeps_none X₁₆.kp hpb)).retype (U := tList tEdge) (z := bridgesL st) fun _ => tNew_old
  have X₁₇ : Ex g { s with heap := g } (Plus (fun _ => False) env.locals) env s₁₇ (upd (upd (fun _ => none) "bridges" ⟨tList tEdge, bridgesL st⟩) "streets" ⟨tList tEdge, st⟩) := X₁₇.weak ((RLe.none.upd (by walk_at "nm")).upd (by walk_at "nm"))
  have c₁₇ := o₁₆.calm.trans o₁₇.calm
  -- good, free
  refine ex_cons ?_
  refine ex_swap1 (U := tList tEdge) (y := 0) hh X₁₇ (has_newlistT (xs := []) hsl_nil (by simp)) (has_int _ _ _) (own (by decide +kernel)) (own (by decide +kernel)) (fun s₁₈ pg hpg X₁₈ acc₁₈ hpgL o₁₈ => ?_) (swapped_pair K (blockOf hsc) (by decide +kernel) (by decide +kernel) (by decide +kernel) rfl rfl rfl rfl)
  have npg := keeps_none X₁₇.kp hpg
  have c₁₈ := c₁₇.trans o₁₈.calm
  let R₀ : List (List (Int × Int)) × Int → Rho := fun b => upd (upd (upd (upd (fun _ => none) "bridges" ⟨tList tEdge, bridgesL st⟩) "streets" ⟨tList tEdge, st⟩) "free" ⟨tInt, b.2⟩) "good" ⟨tVal, .ref pg⟩
  have X₁₈' : Ex g { s with heap := g } (Plus (Plus (fun _ => False) env.locals) pg) env s₁₈ (R₀ ([], 0)) := X₁₈.weak ((((RLe.none.upd (by walk_at "nm")).upd (by walk_at "nm")).upd (by walk_at "nm")).upd (by walk_at "nm"))
  -- ways
  have pw : ∀ n : Nat, n ≤ 6 → (1 : Int) ≤ 2 ^ n ∧ (2 : Int) ^ n ≤ 64 := fun n h6 => by
    have := Nat.pow_le_pow_right (n := 2) (by decide) h6
    have := Nat.one_le_two_pow (n := n)
    have e : ((2 : Int) ^ n) = ((2 ^ n : Nat) : Int) := by push_cast; rfl
    rw [e]; omega
  have h6 : ((st.length : Int)).toNat ≤ 6 := by omega
  have wl : (waysN st).length ≤ 64 := by
    unfold waysN
    rw [rangeL_len]
    have := pw _ h6
    omega
  refine ex_cons ?_
  refine ex_for_st (T := tInt) R₀ (fun b t => Acc (tList tEdge) (Plus (Plus (fun _ => False) env.locals) pg) pg t.heap b.1) (stepWay st) ([], 0) X₁₈' acc₁₈ (fun b t₁ t₂ r o le => acc_oth r o le hpgL) (xs := waysN st) (i_range1 C K X₁₈' hh (has_pow2 (has_int _ _ _) (e_len C K X₁₈' (T := tEdge) (xs := st) ?_ (by omega)) (by omega) (by omega)) (Int.le_of_lt (Int.pow_pos (by decide))) ?_).f (asg_name (own (by decide +kernel))) ?_ ?_
  · walk_at "v"
  · have := pw _ h6; omega
  · intro done way rem s₁₉ hx X₁₉ acc₁₉ c₁₉
    have hway : way ∈ waysN st := by rw [hx]; simp
    have hway' := mem_rangeL hway
    have gl : (done.foldl (stepWay st) ([], 0)).1.length ≤ 64 := by
      have h1 := foldWay_len st done ([], 0)
      have h2 : done.length ≤ (waysN st).length := by rw [hx]; simp
      simp at h1; omega
    generalize hb : done.foldl (stepWay st) ([], 0) = b at X₁₉ acc₁₉ gl ⊢
    have al := arrowsL_len st way
    -- arrows
    refine ex_cons ?_
    refine ex_assign (T := tList tEdge) (y := arrowsL st way) X₁₉ ?_ (own (by decide +kernel)) (fun s₂₀ X₂₀ o₂₀ => ?_) (swaps_no K (by decide +kernel))
    · refine e_compP K (T := tInt) (T' := tEdge) (U := tEdge) (xs := enumL 0 st) (fun _ => true) (fun x => if (way.fdiv (2 ^ x.1.toNat)).fmod 2 == 0 then x.2 else (x.2.2, x.2.1)) hh X₁₉ (i_enum C K X₁₉ hh ?_) (by rw [enumL_len]; omega) (fun x hx env' s' D' t k' K' X' => tests_none) fun x hx _ env' s' D' t k' K' X' => ?_
      · walk_at "v"
      · have hx' := enumL_mem hx
        have := pw x.1.toNat (by omega)
        refine has_ifexp (tst_eq (has_mod (has_fdiv (x := way) (y := 2 ^ x.1.toNat) ?_ (has_pow2 (has_int _ _ _) ?_ (by omega) (by omega)) (by omega) (small_div (by omega))) (has_int _ _ _) (by decide)) (has_int _ _ _)) (fun e => Has.val (x := x.2) ?_ (if_pos e).symm) (fun e => Has.val (has_rev (x := x.2) ?_ (has_neg (has_int _ _ _))) (if_neg (by rw [e]; simp)).symm)
        · walk_at "v"
        · walk_at "v"
        · walk_at "v"
        · walk_at "v"
    have a₂₀ : Acc (tList tEdge) (Plus (Plus (fun _ => False) env.locals) pg) pg s₂₀.heap b.1 := acc_oth acc₁₉ (oth_others o₂₀) o₂₀.calm.le hpgL
    -- good.append
    refine ex_cons (wpAny_mono (Q := fun f s' => f = .next ∧ Ex g { s with heap := g } (Plus (Plus (fun _ => False) env.locals) pg) env s' (upd (R₀ b) "arrows" ⟨tList tEdge, arrowsL st way⟩) ∧ Acc (tList tEdge) (Plus (Plus (fun _ => False) env.locals) pg) pg s'.heap (stepWay st b way).1 ∧ Calm (Plus (Plus (fun _ => False) env.locals) pg) s₂₀ s') ?_ (fun f s₂₁ h => ?_) fun _ _ e => e)
    · have X₂₀ : Ex g { s with heap := g } (Plus (Plus (fun _ => False) env.locals) pg) env s₂₀ (upd (R₀ b) "arrows" ⟨tList tEdge, arrowsL st way⟩) := X₂₀.weak (((((RLe.none.upd (by walk_at "nm")).upd (by walk_at "nm")).upd (by walk_at "nm")).upd (by walk_at "nm")).upd (by walk_at "nm"))
      refine ex_if2 (b := decide ((st.length : Int) ≥ 4) && allL (arrowsL st way)) X₂₀ (tst_and2 (tst_ge (e_len (T := tEdge) (xs := st) C K X₂₀ ?_ (by omega)) (has_int _ _ _)) fun _ => tst_has (e_call1 (tList tEdge) (arrowsL st way) C K X₂₀ F9.gl F9.callee ?_ fun t v k hv => walk_all C F7 F9 (by omega) (R'.less (by omega)) (sub_keeps X₂₀.subs k) hv)) (fun q s' X' k' => ?_) (fun q s' X' k' => ex_nil ⟨rfl, X', ?_, .keeps k'⟩)
      · walk_at "v"
      · walk_at "v"
      · refine ex_cons ?_
        refine ex_append (U := tList tEdge) (xs := b.1) (y := arrowsL st way) X' ?_ (acc_keeps a₂₀ k') (.inr rfl) npg hpgL ?_ (by omega) (fun s'' X'' a'' c'' => ex_nil ⟨rfl, X'', ?_, (Calm.keeps k').trans c''⟩) (by unfold interactive; rw [hsc]; rfl)
        · walk_at "nm"
        · walk_at "v"
        · have e : (stepWay st b way).1 = b.1 ++ [arrowsL st way] := if_pos q
          rw [e]; exact a''
      · have e : (stepWay st b way).1 = b.1 := if_neg (by rw [q]; simp)
        rw [e]; exact acc_keeps a₂₀ k'
    obtain ⟨rfl, X₂₁, a₂₁, c₂₁⟩ := h
    -- left
    refine ex_cons ?_
    refine ex_assign (T := tList tInt) (y := [0, 1, 2, 3]) X₂₁ (has_newlist (xs := [0, 1, 2, 3]) (hsl_cons (has_int _ _ _) (hsl_cons (has_int _ _ _) (hsl_cons (has_int _ _ _) (hsl_cons (has_int _ _ _) hsl_nil)))) (by simp)) (own (by decide +kernel)) fun s₂₂ X₂₂ o₂₂ => ?_
    have a₂₂ := acc_oth a₂₁ (oth_others o₂₂) o₂₂.calm.le hpgL
    have c₂₂ : Calm (Plus (Plus (fun _ => False) env.locals) pg) s₁₉ s₂₂ := (o₂₀.calm.trans c₂₁).trans o₂₂.calm
    let R₁ : List Int → Rho := fun l => upd (upd (upd (upd (upd (upd (fun _ => none) "bridges" ⟨tList tEdge, bridgesL st⟩) "streets" ⟨tList tEdge, st⟩) "free" ⟨tInt, b.2⟩) "good" ⟨tVal, .ref pg⟩) "arrows" ⟨tList tEdge, arrowsL st way⟩) "left" ⟨tList tInt, l⟩
    have X₂₂' : Ex g { s with heap := g } (Plus (Plus (fun _ => False) env.locals) pg) env s₂₂ (R₁ [0, 1, 2, 3]) := X₂₂.weak ((((((RLe.none.upd (by walk_at "nm")).upd (by walk_at "nm")).upd (by walk_at "nm")).upd (by walk_at "nm")).upd (by walk_at "nm")).upd (by walk_at "nm"))
    refine ex_cons ?_
    refine ex_for_st (T := tInt) R₁ (fun _ t => Acc (tList tEdge) (Plus (Plus (fun _ => False) env.locals) pg) pg t.heap (stepWay st b way).1) (stepLeft (arrowsL st way)) [0, 1, 2, 3] X₂₂' a₂₂ (fun _ t₁ t₂ r o le => acc_oth r o le hpgL) (xs := rangeL 0 (4 : Int).toNat) (i_range1 C K X₂₂' hh (has_int _ _ _) (by decide) (by decide)).f (asg_name (own (by decide +kernel))) ?_ ?_
    · intro done2 k rem2 s₂₃ hx2 X₂₃ a₂₃ c₂₃
      have ll := foldLeft_len (arrowsL st way) done2 [0, 1, 2, 3]
      generalize done2.foldl (stepLeft (arrowsL st way)) [0, 1, 2, 3] = l at X₂₃ ll ⊢
      simp only [List.length_cons, List.length_nil] at ll
      refine ex_cons ?_
      refine ex_assign (T := tList tInt) (y := stepLeft (arrowsL st way) l k) X₂₃ ?_ (own (by decide +kernel)) (fun s₂₄ X₂₄ o₂₄ => ex_nil ⟨⟨_, X₂₄, ((((((RLe.none.upd (by walk_at "nm")).upd (by walk_at "nm")).upd (by walk_at "nm")).upd (by walk_at "nm")).upd (by walk_at "nm")).upd (by walk_at "nm"))⟩, acc_oth a₂₃ (oth_others o₂₄) o₂₄.calm.le hpgL, o₂₄.calm⟩) (swaps_no K (by decide +kernel))
      refine e_compN K (T := tInt) (U := tInt) (xs := l) (keepL (arrowsL st way) l) (fun place => place) X₂₃ (iters_list hh ?_) (by omega) (fun place hx env' s' D' t k' K' X' => tests_one (tst_notnil (by omega) (T := tInt) (U := tInt) ?_ (has_list0 tInt))) fun place hx _ env' s' D' t k' K' X' => ?_
      · walk_at "v"
      · refine e_compP K' (T := tInt) (T' := tInt) (U := tInt) (xs := arrowsL st way) (comesL l place) (fun _ => 1) hh X' (iters_list hh ?_) (by omega) (fun x hx env' s' D' t k' K' X' => tests_one (tst_and2 (tst_eq ?_ ?_) fun _ => tst_inI (by omega) ?_ ?_)) fun x hx _ env' s' D' t k' K' X' => has_int _ _ _
        · walk_at "v"
        · walk_at "v"
        · walk_at "v"
        · walk_at "v"
        · walk_at "v"
      · walk_at "v"
    · intro s₂₃ X₂₃ a₂₃ c₂₃
      have c₂₃ := c₂₂.trans c₂₃
      have X₂₃ : Ex g { s with heap := g } (Plus (Plus (fun _ => False) env.locals) pg) env s₂₃ (R₁ (leftL (arrowsL st way))) := X₂₃
      have ll := foldLeft_len (arrowsL st way) (rangeL 0 (4 : Int).toNat) [0, 1, 2, 3]
      have lw := ways way hway
      refine ex_cons ?_
      refine ex_if2 (b := (leftL (arrowsL st way)).isEmpty) X₂₃ (tst_isnil (by omega) (T := tInt) (U := tInt) ?_ (has_list0 tInt)) (fun q s' X' k' => ?_) (fun q s' X' k' => ex_nil (ex_nil ⟨⟨_, X', ?_⟩, acc_keeps a₂₃ k', c₂₃.trans (.keeps k')⟩))
      · walk_at "v"
      · refine ex_cons ?_
        refine ex_assign (T := tInt) (y := b.2 + 1) X' (has_add ?_ (has_int _ _ _)) (own (by decide +kernel)) fun s₂₅ X₂₅ o₂₅ => ?_
        · walk_at "v"
        refine ex_cons ?_
        refine ex_if2 (b := noinL (arrowsL st way)) X₂₅ (tst_isnil (by omega) (T := tInt) (U := tInt) ?_ (has_list0 tInt)) (fun q2 => absurd q2 (by rw [lw q]; simp)) (fun _ s₂₆ X₂₆ k₂₆ => ex_nil (ex_nil (ex_nil ⟨⟨_, X₂₆, ?_⟩, acc_keeps (acc_oth (acc_keeps a₂₃ k') (oth_others o₂₅) o₂₅.calm.le hpgL) k₂₆, ((c₂₃.trans (.keeps k')).trans o₂₅.calm).trans (.keeps k₂₆)⟩)))
        · refine e_compN K (T := tInt) (U := tInt) (xs := rangeL 0 (4 : Int).toNat) (bareL (arrowsL st way)) (fun place => place) X₂₅ (i_range1 C K X₂₅ hh (has_int _ _ _) (by decide) (by decide)) (by decide) (fun place hx env' s' D' t k' K' X' => tests_one (tst_isnil (by omega) (T := tInt) (U := tInt) ?_ (has_list0 tInt))) fun place hx _ env' s' D' t k' K' X' => ?_
          · refine e_compP K' (T := tInt) (T' := tInt) (U := tInt) (xs := arrowsL st way) (endsL place) (fun _ => 1) hh X' (iters_list hh ?_) (by omega) (fun x hx env' s' D' t k' K' X' => tests_one (tst_eq ?_ ?_)) fun x hx _ env' s' D' t k' K' X' => has_int _ _ _
            · walk_at "v"
            · walk_at "v"
            · walk_at "v"
          · walk_at "v"
        · have e : R₀ (stepWay st b way) = R₀ ([], b.2 + 1) := by
            have : (stepWay st b way).2 = b.2 + 1 := if_pos q
            show (fun f : Int => R₀ ([], f)) (stepWay st b way).2 = _
            rw [this]
          rw [e]
          exact ((((RLe.none.upd (by walk_at "nm")).upd (by walk_at "nm")).upd (by walk_at "nm")).upd (by walk_at "nm"))
      · have e : R₀ (stepWay st b way) = R₀ ([], b.2) := by
          have : (stepWay st b way).2 = b.2 := if_neg (by rw [q]; simp)
          show (fun f : Int => R₀ ([], f)) (stepWay st b way).2 = _
          rw [this]
        rw [e]
        exact ((((RLe.none.upd (by walk_at "nm")).upd (by walk_at "nm")).upd (by walk_at "nm")).upd (by walk_at "nm"))
  · intro s₁₉ X₁₉ acc₁₉ c₁₉
    have gl := foldWay_len st (waysN st) ([], 0)
    have ge := foldWay_each st (waysN st) ([], 0) (fun a m => nomatch m)
    have gl : (goodsL st).1.length ≤ 64 := by
      unfold goodsL
      simp at gl; omega
    have ge : ∀ a ∈ (goodsL st).1, a.length = st.length := ge
    have X₁₉ : Ex g { s with heap := g } (Plus (Plus (fun _ => False) env.locals) pg) env s₁₉ (upd (upd (upd (upd (fun _ => none) "bridges" ⟨tList tEdge, bridgesL st⟩) "streets" ⟨tList tEdge, st⟩) "free" ⟨tInt, (goodsL st).2⟩) "good" ⟨tVal, .ref pg⟩) := X₁₉
    have acc₁₉ : Acc (tList tEdge) (Plus (Plus (fun _ => False) env.locals) pg) pg s₁₉.heap (goodsL st).1 := acc₁₉
    have t4₁₉ : ∃ ps, s₁₉.heap.get? P4 = some (tabObj ps) := let ⟨ps, e⟩ := t4; ⟨ps, c₁₉.fields _ _ _ (c₁₈.fields _ _ _ e rfl) rfl⟩
    have t5₁₉ : ∃ ps, s₁₉.heap.get? P5 = some (tabObj ps) := let ⟨ps, e⟩ := t5; ⟨ps, c₁₉.fields _ _ _ (c₁₈.fields _ _ _ e rfl) rfl⟩
    generalize hG : goodsL st = gs at X₁₉ acc₁₉ gl ge robbins fresh rows turned
    obtain ⟨goods, free⟩ := gs
    dsimp only at X₁₉ acc₁₉ gl ge robbins fresh rows turned
    have X₂₀ := (X₁₉.freeze (s₁ := { s with heap := g }) (D := Plus (fun _ => False) env.locals) acc₁₉ (fun _ _ _ d => .inl d) (fun d => live_none X₁₇.live hpg d) X₁₇.fm.volL (fun b d => X₁₉.live b (.inl d)) npg).retype (U := tList (tList tEdge)) (z := goods) fun _ => tNew_old
    -- Robbins
    refine ex_cons ?_
    refine ex_if2 (b := (((!goods.isEmpty) != (togetherL st && (bridgesL st).isEmpty)) || (free == 0))) X₂₀ (tst_or2 (tst_neb (has_notnil (by omega) (T := tList tEdge) (U := tInt) ?_ (has_list0 tInt)) (has_and (e_call1 (tList tEdge) st C K X₂₀ F8.gl F8.callee ?_ fun t v k hv => walk_together C F7 F8 (by omega) (R'.less (by omega)) (sub_keeps X₂₀.subs k) hv) fun _ => has_and1 (has_isnil (by omega) (T := tEdge) (U := tInt) ?_ (has_list0 tInt)))) fun _ => tst_eq ?_ (has_int _ _ _)) (fun q => absurd q (by rw [robbins]; simp)) fun _ s₂₁ X₂₁ k₂₁ => ex_nil ?_
    · walk_at "v"
    · walk_at "v"
    · walk_at "v"
    · walk_at "v"
    -- the good ways
    let R₂ : Rho := upd (upd (fun _ => none) "bridges" ⟨tList tEdge, bridgesL st⟩) "streets" ⟨tList tEdge, st⟩
    have X₂₁' : Ex g { s with heap := g } (Plus (fun _ => False) env.locals) env s₂₁ R₂ := X₂₁.weak ((RLe.none.upd (by walk_at "nm")).upd (by walk_at "nm"))
    refine ex_cons ?_
    refine ex_for_st (T := tList tEdge) (β := Unit) (fun _ => R₂) (fun _ _ => True) (fun _ _ => ()) () X₂₁' trivial (fun _ _ _ _ _ _ => trivial) (xs := goods) (iters_list hh ?_).f (asg_name (own (by decide +kernel))) ?_ ?_
    · exact has_name X₂₁ (by walk_at "nm") (by decide +kernel)
    · intro done arrows rem s₂₂ hx X₂₂ _ c₂₂
      have harr : arrows ∈ goods := by rw [hx]; simp
      have alen := ge arrows harr
      have fr := fresh arrows harr
      have rw4 := rows4_len
      -- out, back
      refine ex_cons ?_
      refine ex_swap2 (U := tRow prog w "to" "street") (V := tRow prog w "from" "street") (xs := rows4) (ys := rows4) hh X₂₂ ?_ (fun s₁ k => ?_) (own (by decide +kernel)) (own (by decide +kernel)) (fun m hg hx => row_free (rows4_nil _ m) hg hx) (fun m hg hx => row_free (rows4_nil _ m) hg hx) (fun s₂₃ q r hq hr hqr X₂₃ aq ar hqL hrL o₂₃ => ?_) (swapped_pair K (blockOf hsc) (by decide +kernel) (by decide +kernel) (by decide +kernel) rfl rfl rfl rfl)
      · exact e_compNT K (T := tInt) (U := tRow prog w "to" "street") (xs := rangeL 0 (4 : Int).toNat) (fun _ => true) (fun _ => []) X₂₂ (i_range1 C K X₂₂ hh (has_int _ _ _) (by decide) (by decide)) (by decide) (fun x m env' s' D' t k' K' X' => tests_none) (fun x m _ env' s' D' t k' K' X' => has_row0 _ _ C X')
      · exact e_compNT K (T := tInt) (U := tRow prog w "from" "street") (xs := rangeL 0 (4 : Int).toNat) (fun _ => true) (fun _ => []) (X₂₂.up k) (i_range1 C K (X₂₂.up k) hh (has_int _ _ _) (by decide) (by decide)) (by decide) (fun x m env' s' D' t k' K' X' => tests_none) (fun x m _ env' s' D' t k' K' X' => has_row0 _ _ C X')
      let R₃ : Rho := upd (upd (upd (upd (upd (fun _ => none) "bridges" ⟨tList tEdge, bridgesL st⟩) "streets" ⟨tList tEdge, st⟩) "arrows" ⟨tList tEdge, arrows⟩) "back" ⟨tVal, .ref r⟩) "out" ⟨tVal, .ref q⟩
      have nq := keeps_none X₂₂.kp hq
      have nr := keeps_none X₂₂.kp hr
      have X₂₃' : Ex g { s with heap := g } (Plus (Plus (Plus (fun _ => False) env.locals) q) r) env s₂₃ R₃ := X₂₃.weak (((((RLe.none.upd (by walk_at "nm")).upd (by walk_at "nm")).upd (by walk_at "nm")).upd (by walk_at "nm")).upd (by walk_at "nm"))
      refine ex_cons ?_
      refine ex_for_st (T := tEdge) (fun _ => R₃) (fun b t => Acc (tRow prog w "to" "street") (Plus (Plus (Plus (fun _ => False) env.locals) q) r) q t.heap b.1 ∧ Acc (tRow prog w "from" "street") (Plus (Plus (Plus (fun _ => False) env.locals) q) r) r t.heap b.2) stepO (rows4, rows4) X₂₃' ⟨aq, ar⟩ (fun b t₁ t₂ h o le => ⟨acc_oth h.1 o le hqL, acc_oth h.2 o le hrL⟩)
        (iters_list (xs := arrows) hh ?_).f (asg_pair hh (own (by decide +kernel)) (own (by decide +kernel))) ?_ ?_
      · walk_at "v"
      · intro done x rem s₂₄ hx3 X₂₄ a12 c₂₄
        have ok := freshO_at (b := (rows4, rows4)) (x := x) (hx3 ▸ fr)
        have bl2 := foldO_len done (rows4, rows4)
        generalize hb : done.foldl stepO (rows4, rows4) = b at a12 ok bl2 ⊢
        obtain ⟨a1, a2⟩ := a12
        simp only [okO, Bool.and_eq_true, decide_eq_true_eq, Bool.not_eq_true', List.contains_eq_mem, decide_eq_false_iff_not] at ok
        obtain ⟨⟨⟨⟨⟨⟨⟨o1, o2⟩, o3⟩, o4⟩, o5⟩, o6⟩, o7⟩, o8⟩ := ok
        have l1 : b.1.length = 4 := bl2.1.trans rw4
        have l2 : b.2.length = 4 := bl2.2.trans rw4
        refine ex_cons ?_
        refine ex_tallyB (a := "to") (b := "street") (k := x.2) (i := x.1) (rows := b.1) (p := q) C K F1 ?n1 X₂₄ (R'.less (by omega)) a1 (.inl (.inr rfl)) nq hqL ?c1 ?i1 ?a1 ?k1 o1 (by omega) o5 o7 (by omega) ?g1 ?s1 fun s₂₅ X₂₅ a1' c₂₅ kb1 => ?_
        case n1 => decide +kernel
        case c1 => exact fun s' pp k => has_name (X₂₄.up k) (by walk_at "nm") (by decide +kernel)
        case i1 => exact fun s' pp k => has_name (X₂₄.up k) (by walk_at "nm") (by decide +kernel)
        case a1 => exact has_str _ _ _
        case k1 => walk_at "v"
        case g1 => decide +kernel
        case s1 => rfl
        have a2' : Acc (tRow prog w "from" "street") (Plus (Plus (Plus (fun _ => False) env.locals) q) r) r s₂₅.heap b.2 := by
          obtain ⟨vs, n, e, p⟩ := a2
          exact ⟨vs, n, kb1 r _ (Ne.symm hqr) e, paired_mono (fun _ _ => (tRow prog w "from" "street").mono c₂₅.le) p⟩
        refine ex_cons ?_
        refine ex_tallyB (a := "from") (b := "street") (k := x.1) (i := x.2) (rows := b.2) (p := r) C K F1 ?n2 X₂₅ (R'.less (by omega)) a2' (.inr rfl) nr hrL ?c2 ?i2 ?a2 ?k2 o3 (by omega) o6 o8 (by omega) ?g2 ?s2 fun s₂₆ X₂₆ a2'' c₂₆ kb2 => ?_
        case n2 => decide +kernel
        case c2 => exact fun s' pp k => has_name (X₂₅.up k) (by walk_at "nm") (by decide +kernel)
        case i2 => exact fun s' pp k => has_name (X₂₅.up k) (by walk_at "nm") (by decide +kernel)
        case a2 => exact has_str _ _ _
        case k2 => walk_at "v"
        case g2 => decide +kernel
        case s2 => rfl
        have a1'' : Acc (tRow prog w "to" "street") (Plus (Plus (Plus (fun _ => False) env.locals) q) r) q s₂₆.heap (addTo b.1 x.1 x.2) := by
          obtain ⟨vs, n, e, p⟩ := a1'
          exact ⟨vs, n, kb2 q _ hqr e, paired_mono (fun _ _ => (tRow prog w "to" "street").mono c₂₆.le) p⟩
        exact ex_nil ⟨⟨_, X₂₆, ((((RLe.none.upd (by walk_at "nm")).upd (by walk_at "nm")).upd (by walk_at "nm")).upd (by walk_at "nm")).upd (by walk_at "nm")⟩, ⟨a1'', a2''⟩, c₂₅.trans c₂₆⟩
      · intro s₂₄ X₂₄ a12 c₂₄
        have bl2 := foldO_len arrows (rows4, rows4)
        have rowsOk := rows arrows harr
        have a12 : Acc (tRow prog w "to" "street") (Plus (Plus (Plus (fun _ => False) env.locals) q) r) q s₂₄.heap (tallyO arrows).1 ∧ Acc (tRow prog w "from" "street") (Plus (Plus (Plus (fun _ => False) env.locals) q) r) r s₂₄.heap (tallyO arrows).2 := a12
        have bl2 : (tallyO arrows).1.length = rows4.length ∧ (tallyO arrows).2.length = rows4.length := bl2
        generalize tallyO arrows = tl at a12 bl2 rowsOk
        obtain ⟨o, bk⟩ := tl
        dsimp only at a12 bl2 rowsOk
        obtain ⟨a1, a2⟩ := a12
        have hD3 : ∀ b ob, s₂₄.heap.get? b = some ob → Plus (fun _ => False) env.locals b → Plus (Plus (Plus (fun _ => False) env.locals) q) r b := fun _ _ _ d => .inl (.inl d)
        have ndq : ¬ Plus (fun _ => False) env.locals q := fun d => live_none X₂₂.live hq d
        have ndr : ¬ Plus (fun _ => False) env.locals r := fun d => live_none X₂₂.live hr d
        have X₂₅ : Ex g { s with heap := g } (Plus (fun _ => False) env.locals) env s₂₄ (upd (upd (upd (upd (upd (fun _ => none) "bridges" ⟨tList tEdge, bridgesL st⟩) "streets" ⟨tList tEdge, st⟩) "arrows" ⟨tList tEdge, arrows⟩) "back" ⟨tVal, .ref r⟩) "out" ⟨tVal, .ref q⟩) := X₂₄.wide hD3 (fun b d => X₂₄.live b (.inl (.inl d))) X₂₂.fm.volL
        have X₂₆ := X₂₅.retype (U := tList (tEither (tRow prog w "to" "street") (tRow prog w "from" "street"))) (z := o) (fun v e => by
          obtain ⟨vs, n, e2, p⟩ := a1
          exact ⟨q, n, vs, e, ndq, e2, paired_mono (fun _ _ h => .inl ((tRow prog w "to" "street").wide hD3 h)) p⟩)
        have X₂₇ : Ex g { s with heap := g } (Plus (fun _ => False) env.locals) env s₂₄ (upd (upd (upd (upd (upd (fun _ => none) "bridges" ⟨tList tEdge, bridgesL st⟩) "streets" ⟨tList tEdge, st⟩) "arrows" ⟨tList tEdge, arrows⟩) "out" ⟨tList (tEither (tRow prog w "to" "street") (tRow prog w "from" "street")), o⟩) "back" ⟨tVal, .ref r⟩) := X₂₆.weak (((((RLe.none.upd (by walk_at "nm")).upd (by walk_at "nm")).upd (by walk_at "nm")).upd (by walk_at "nm")).upd (by walk_at "nm"))
        have X₂₈ := X₂₇.retype (U := tList (tEither (tRow prog w "to" "street") (tRow prog w "from" "street"))) (z := bk) (fun v e => by
          obtain ⟨vs, n, e2, p⟩ := a2
          exact ⟨r, n, vs, e, ndr, e2, paired_mono (fun _ _ h => .inr ((tRow prog w "from" "street").wide hD3 h)) p⟩)
        have tu := turned arrows harr
        have c₂₄' := calm_back hq hr o₂₃.calm c₂₄
        have tle : (turnedL arrows).length = arrows.length := by unfold turnedL; rw [filter_tt, List.length_map]
        have cle : (countR (o ++ bk)).length = 8 := by unfold countR; rw [filter_tt, List.length_map, List.length_append]; omega
        refine ex_cons ?_
        refine ex_if2 (b := decide (leastL (countR (o ++ bk)) < 1) || ((countR o).sum != (st.length : Int))) X₂₈ (tst_or2 (tst_lt (e_min (xs := countR (o ++ bk)) C K X₂₈ hh ?_ (by omega)) (has_int _ _ _)) fun _ => tst_ne (e_sum (xs := countR o) C K X₂₈ hh ?_) (e_len C K X₂₈ (T := tEdge) (xs := st) ?_ (by omega))) (fun q => absurd q (by rw [rowsOk]; simp)) fun _ s₂₉ X₂₉ k₂₉ => ex_nil ?_
        · refine e_compN K (T := tEither (tRow prog w "to" "street") (tRow prog w "from" "street")) (U := tInt) (xs := o ++ bk) (fun _ => true) (fun r => (r.length : Int)) X₂₈ (iters_list hh (has_addlist (xs := o) (ys := bk) ?_ ?_ (by omega))) (by rw [List.length_append]; omega) (fun x m env' s' D'' t k' K' X' => tests_none) fun x m _ env' s' D'' t k' K' X' => e_call1 (tEither (tRow prog w "to" "street") (tRow prog w "from" "street")) x C K' X' F2.gl F2.callee ?_ fun s₈ v k8 hv => walk_countE C F2 (R'.less (by omega)) (sub_keeps X'.subs k8) hv
          · walk_at "v"
          · walk_at "v"
          · walk_at "v"
        · refine e_compN K (T := tEither (tRow prog w "to" "street") (tRow prog w "from" "street")) (U := tInt) (xs := o) (fun _ => true) (fun r => (r.length : Int)) X₂₈ (iters_list hh ?_) (by omega) (fun x m env' s' D'' t k' K' X' => tests_none) fun x m _ env' s' D'' t k' K' X' => e_call1 (tEither (tRow prog w "to" "street") (tRow prog w "from" "street")) x C K' X' F2.gl F2.callee ?_ fun s₈ v k8 hv => walk_countE C F2 (R'.less (by omega)) (sub_keeps X'.subs k8) hv
          · walk_at "v"
          · walk_at "v"
        · walk_at "v"
        refine ex_cons ?_
        refine ex_if2 (b := !allL (turnedL arrows)) X₂₉ (tst_not (tst_has (e_call1 (tList tEdge) (turnedL arrows) C K X₂₉ F9.gl F9.callee ?_ fun t v k hv => walk_all C F7 F9 (by omega) (R'.less (by omega)) (sub_keeps X₂₉.subs k) hv))) (fun q => absurd q (by rw [tu]; simp)) fun _ s₃₀ X₃₀ k₃₀ => ex_nil (ex_nil ⟨⟨_, X₃₀, ?_⟩, trivial, (c₂₄'.trans (.keeps k₂₉)).trans (.keeps k₃₀)⟩)
        · refine e_compN K (T := tEdge) (U := tEdge) (xs := arrows) (fun _ => true) (fun x => (x.2, x.1)) X₂₉ (iters_list hh ?_) (by omega) (fun x m env' s' D'' t k' K' X' => tests_none) fun x m _ env' s' D'' t k' K' X' => has_rev ?_ (has_neg (has_int _ _ _))
          · walk_at "v"
          · walk_at "v"
        · exact ((RLe.none.upd (by walk_at "nm")).upd (by walk_at "nm"))
    · intro s₂₂ X₂₂ _ c₂₂
      have X₂₂ : Ex g { s with heap := g } (Plus (fun _ => False) env.locals) env s₂₂ R₂ := X₂₂
      -- bridges
      refine ex_cons ?_
      refine ex_for_st (T := tEdge) (β := Unit) (fun _ => R₂) (fun _ _ => True) (fun _ _ => ()) () X₂₂ trivial (fun _ _ _ _ _ _ => trivial) (xs := bridgesL st) (iters_list hh ?_).f (asg_pair hh (own (by decide +kernel)) (own (by decide +kernel))) ?_ ?_
      · walk_at "v"
      · intro done x rem s₂₃ hx X₂₃ _ c₂₃
        have hxb : x ∈ bridgesL st := by rw [hx]; simp
        have hc := cut x hxb
        have cl := cutL_len st x
        have bo := both_len st
        refine ex_cons ?_
        refine ex_if2 (b := (reachL (cutL st x) x.1).any fun y => decide (y = x.2)) X₂₃ (tst_inI (by omega) ?_ (e_call2 (tList tEdge) (cutL st x) tInt x.1 C K X₂₃ F7.gl F7.callee ?_ ?_ fun t u v k hu hv => walk_reached C F7 (by omega) (R'.less (by omega)) (sub_keeps X₂₃.subs k) hu hv)) (fun q => absurd q (by rw [hc]; simp)) fun _ s₂₄ X₂₄ k₂₄ => ex_nil (ex_nil ⟨⟨_, X₂₄, ?_⟩, trivial, .keeps k₂₄⟩)
        · walk_at "v"
        · refine e_compN K (T := tEdge) (U := tEdge) (xs := bothL st) (fun y => !([(x.1, x.2), (x.2, x.1)] : List (Int × Int)).any fun z => decide (z = y)) (fun y => y) X₂₃ (iters_list hh (has_addlist (xs := st) (ys := (st.filter fun _ => true).map fun x => (x.2, x.1)) ?_ ?_ ?_)) (by omega) (fun y hy env' s' D' t k' K' X' => tests_one (tst_notin (by omega) ?_ (has_newlist (xs := [(x.1, x.2), (x.2, x.1)]) (hsl_cons (has_tuple2 ?_ ?_) (hsl_cons (has_tuple2 ?_ ?_) hsl_nil)) (by simp)))) fun y hy _ env' s' D' t k' K' X' => ?_
          · walk_at "v"
          · refine e_compN K (T := tEdge) (U := tEdge) (xs := st) (fun _ => true) (fun x => (x.2, x.1)) X₂₃ (iters_list hh ?_) (by omega) (fun x m env' s' D'' t k' K' X' => tests_none) fun x m _ env' s' D'' t k' K' X' => has_rev ?_ (has_neg (has_int _ _ _))
            · walk_at "v"
            · walk_at "v"
          · rw [filter_tt, List.length_map]; omega
          · walk_at "v"
          · walk_at "v"
          · walk_at "v"
          · walk_at "v"
          · walk_at "v"
          · walk_at "v"
        · walk_at "v"
        · exact ((RLe.none.upd (by walk_at "nm")).upd (by walk_at "nm"))
      · intro s₂₃ X₂₃ _ c₂₃
        have cf : ∀ P ps, s₁₉.heap.get? P = some (tabObj ps) → s₂₃.heap.get? P = some (tabObj ps) := fun P ps e => c₂₃.fields _ _ _ (c₂₂.fields _ _ _ (keeps_get k₂₁ e) rfl) rfl
        refine ex_cons (ex_return (P := fun h v => tBool.is (Plus (fun _ => False) env.locals) h v true) X₂₃ (has_bool _ _ _) fun v s' k hv => ?_) rfl
        refine ⟨hv, keeps_trans X₂₃.kp k, ?_, ?_⟩
        · obtain ⟨ps, e⟩ := t4₁₉
          exact ⟨ps, keeps_get k (cf _ _ e)⟩
        · obtain ⟨ps, e⟩ := t5₁₉
          exact ⟨ps, keeps_get k (cf _ _ e)⟩
end
end Mine

end
section
set_option maxRecDepth 100000
open PySem PySem.W PyProof.Rows PySem.Calls PySem.Challenge
namespace Mine
def keysF (arrows : List (Int × Int)) (first : Int) : List Int := (foundL arrows first).foldl addKey []
theorem reach_any (arrows : List (Int × Int)) (first : Int) (f : Int → Bool) : (reachL arrows first).any f = (keysF arrows first).any f := by
  rw [Bool.eq_iff_iff, List.any_eq_true, List.any_eq_true]
  have p : ∀ x, x ∈ reachL arrows first ↔ x ∈ keysF arrows first := fun x => (sortL_perm _).mem_iff
  simp only [p]
theorem reach_length (arrows : List (Int × Int)) (first : Int) : (reachL arrows first).length = (keysF arrows first).length := (sortL_perm _).length_eq
def togetherF (streets : List (Int × Int)) : Bool := Nat.beq (keysF (bothL streets) 0).length 4
def allF (arrows : List (Int × Int)) : Bool := (rangeL 0 (4 : Int).toNat).all fun place => Nat.ble 4 (keysF arrows place).length
theorem together_eq : togetherL = togetherF := funext fun st => by
  unfold togetherL togetherF
  rw [reach_length, Bool.eq_iff_iff, beq_iff_eq]
  constructor
  · intro h
    have : (keysF (bothL st) 0).length = 4 := by omega
    rw [this]; rfl
  · intro h
    have := Nat.eq_of_beq_eq_true h
    omega
theorem all_eq : allL = allF := funext fun a => by
  unfold allL allF
  rw [List.map_id']
  have key : ∀ l : List Int, (l.filter fun place => decide (((reachL a place).length : Int) < 4)).isEmpty = l.all fun place => Nat.ble 4 (keysF a place).length := fun l => by
    induction l with
    | nil => rfl
    | cons x l ih =>
      rw [List.filter_cons, List.all_cons, ← ih, reach_length]
      by_cases h : 4 ≤ (keysF a x).length
      · rw [if_neg (by simp; omega), Nat.ble_eq_true_of_le h, Bool.true_and]
      · have : Nat.ble 4 (keysF a x).length = false := by
          rw [Bool.eq_false_iff]
          exact fun q => h (Nat.le_of_ble_eq_true q)
        rw [if_pos (by simp; omega), this]
        rfl
  exact key _
def stepWayF (st : List (Int × Int)) (b : List (List (Int × Int)) × Int) (way : Int) : List (List (Int × Int)) × Int :=
  (cond (Nat.ble 4 st.length && allF (arrowsL st way)) (b.1 ++ [arrowsL st way]) b.1, cond (leftL (arrowsL st way)).isEmpty (b.2 + 1) b.2)
def goodsF (st : List (Int × Int)) : List (List (Int × Int)) × Int := (waysN st).foldl (stepWayF st) ([], 0)
theorem goods_eq : goodsL = goodsF := funext fun st => by
  unfold goodsL goodsF
  congr 1
  funext b way
  unfold stepWay stepWayF
  rw [all_eq]
  have e : decide ((st.length : Int) ≥ 4) = Nat.ble 4 st.length := by
    rw [Bool.eq_iff_iff, decide_eq_true_eq]
    exact ⟨fun h => Nat.ble_eq_true_of_le (by omega), fun h => by have := Nat.le_of_ble_eq_true h; omega⟩
  rw [e]
  refine Prod.ext ?_ ?_
  · dsimp only
    cases Nat.ble 4 st.length && allF (arrowsL st way) <;> rfl
  · dsimp only
    cases (leftL (arrowsL st way)).isEmpty <;> rfl
def bridgesF (st : List (Int × Int)) : List (Int × Int) := (st.filter fun x => togetherF st && !togetherF (lessL st x)).map fun x => x
theorem bridges_eq : bridgesL = bridgesF := funext fun st => by
  unfold bridgesL bridgesF
  rw [together_eq]
def bitsF : Nat → Nat → List Int
  | 0, _ => []
  | k + 1, n => cond (Nat.beq (n % 2) 1) 1 0 :: bitsF k (n / 2)
def chkA (n : Nat) : Bool := (figs6 n == bitsF 6 n) && ((d2iL (bitsF 6 n) == n) && Nat.ble (Builtin.Int.intBits n) 20)
def chkW (st : List (Int × Int)) : Bool := (waysN st).all fun way => !(leftL (arrowsL st way)).isEmpty || !noinL (arrowsL st way)
def chkR (st : List (Int × Int)) (gs : List (List (Int × Int)) × Int) (bs : List (Int × Int)) : Bool := !(((!gs.1.isEmpty) != (togetherF st && bs.isEmpty)) || (gs.2 == 0))
def chkG (st : List (Int × Int)) (arrows : List (Int × Int)) : Bool := freshO (rows4, rows4) arrows && (!(decide (leastL (countR ((tallyO arrows).1 ++ (tallyO arrows).2)) < 1) || ((countR (tallyO arrows).1).sum != (st.length : Int))) && allF (turnedL arrows))
def chkC (st : List (Int × Int)) (x : Int × Int) : Bool := !(keysF (cutL st x) x.1).any fun y => decide (y = x.2)
def chk (n : Nat) : Bool := chkA n && (chkW (streetsL n) && (chkR (streetsL n) (goodsF (streetsL n)) (bridgesF (streetsL n)) && ((goodsF (streetsL n)).1.all (chkG (streetsL n)) && (bridgesF (streetsL n)).all (chkC (streetsL n)))))
theorem intBits_pos {N : Int} (h : N ≠ 0) : 1 ≤ Builtin.Int.intBits N := by
  unfold Builtin.Int.intBits
  rw [if_neg (by simpa using h)]
  omega
theorem bits_01 : ∀ (k n i : Nat), 0 ≤ (bitsF k n).getD i 0 ∧ (bitsF k n).getD i 0 ≤ 1
  | 0, _, _ => by simp [bitsF]
  | k + 1, n, 0 => by
    rw [bitsF, List.getD_cons_zero]
    cases Nat.beq (n % 2) 1 <;> decide
  | k + 1, n, i + 1 => by
    rw [bitsF, List.getD_cons_succ]
    exact bits_01 k _ i
theorem fine_of {n : Nat} (hn : n < 64) (h : chk n = true) : Fine1 n := by
  unfold chk chkA chkW chkR at h
  simp only [Bool.and_eq_true, beq_iff_eq, Bool.not_eq_true', List.all_eq_true, Bool.or_eq_true] at h
  obtain ⟨⟨hf, hd, hb⟩, hw, hr, hg, hc⟩ := h
  constructor
  · omega
  · omega
  · exact Nat.le_of_ble_eq_true hb
  · exact intBits_pos
  · intro i; rw [hf]; exact bits_01 _ _ _
  · rw [hf]; exact hd
  · intro way m q
    rcases hw way m with h | h
    · rw [q] at h; cases h
    · exact h
  · rw [goods_eq, bridges_eq, together_eq]; exact hr
  · intro a m
    rw [goods_eq] at m
    have := hg a m
    unfold chkG at this
    simp only [Bool.and_eq_true, Bool.not_eq_true'] at this
    exact this.1
  · intro a m
    rw [goods_eq] at m
    have := hg a m
    unfold chkG at this
    simp only [Bool.and_eq_true, Bool.not_eq_true'] at this
    exact this.2.1
  · intro a m
    rw [goods_eq] at m
    have := hg a m
    unfold chkG at this
    simp only [Bool.and_eq_true, Bool.not_eq_true'] at this
    rw [all_eq]
    exact this.2.2
  · intro x m
    rw [bridges_eq] at m
    have := hc x m
    unfold chkC at this
    rw [reach_any]
    simpa using this
end Mine

end
section
set_option maxRecDepth 100000
open PySem PySem.W PyProof.Rows PySem.Calls PySem.Challenge
namespace Mine
theorem from_chunk {f : Nat → Bool} {a k n : Nat} (h : ((List.range' a k).all f) = true) (h1 : a ≤ n) (h2 : n < a + k) : f n = true :=
  List.all_eq_true.mp h n (List.mem_range'_1.mpr ⟨h1, h2⟩)
theorem k1_0 : ((List.range' 0 2).all fun n => chk n) = true := by decide +kernel
theorem k1_1 : ((List.range' 2 2).all fun n => chk n) = true := by decide +kernel
theorem k1_2 : ((List.range' 4 2).all fun n => chk n) = true := by decide +kernel
theorem k1_3 : ((List.range' 6 2).all fun n => chk n) = true := by decide +kernel
theorem k1_4 : ((List.range' 8 2).all fun n => chk n) = true := by decide +kernel
theorem k1_5 : ((List.range' 10 2).all fun n => chk n) = true := by decide +kernel
theorem k1_6 : ((List.range' 12 2).all fun n => chk n) = true := by decide +kernel
theorem k1_7 : ((List.range' 14 2).all fun n => chk n) = true := by decide +kernel
theorem k1_8 : ((List.range' 16 2).all fun n => chk n) = true := by decide +kernel
theorem k1_9 : ((List.range' 18 2).all fun n => chk n) = true := by decide +kernel
theorem k1_10 : ((List.range' 20 2).all fun n => chk n) = true := by decide +kernel
theorem k1_11 : ((List.range' 22 2).all fun n => chk n) = true := by decide +kernel
theorem k1_12 : ((List.range' 24 2).all fun n => chk n) = true := by decide +kernel
theorem k1_13 : ((List.range' 26 2).all fun n => chk n) = true := by decide +kernel
theorem k1_14 : ((List.range' 28 2).all fun n => chk n) = true := by decide +kernel
theorem k1_15 : ((List.range' 30 2).all fun n => chk n) = true := by decide +kernel
theorem k1_16 : ((List.range' 32 2).all fun n => chk n) = true := by decide +kernel
theorem k1_17 : ((List.range' 34 2).all fun n => chk n) = true := by decide +kernel
theorem k1_18 : ((List.range' 36 2).all fun n => chk n) = true := by decide +kernel
theorem k1_19 : ((List.range' 38 2).all fun n => chk n) = true := by decide +kernel
theorem k1_20 : ((List.range' 40 2).all fun n => chk n) = true := by decide +kernel
theorem k1_21 : ((List.range' 42 2).all fun n => chk n) = true := by decide +kernel
theorem k1_22 : ((List.range' 44 2).all fun n => chk n) = true := by decide +kernel
theorem k1_23 : ((List.range' 46 2).all fun n => chk n) = true := by decide +kernel
theorem k1_24 : ((List.range' 48 2).all fun n => chk n) = true := by decide +kernel
theorem k1_25 : ((List.range' 50 2).all fun n => chk n) = true := by decide +kernel
theorem k1_26 : ((List.range' 52 2).all fun n => chk n) = true := by decide +kernel
theorem k1_27 : ((List.range' 54 2).all fun n => chk n) = true := by decide +kernel
theorem k1_28 : ((List.range' 56 2).all fun n => chk n) = true := by decide +kernel
theorem k1_29 : ((List.range' 58 2).all fun n => chk n) = true := by decide +kernel
theorem k1_30 : ((List.range' 60 2).all fun n => chk n) = true := by decide +kernel
theorem k1_31 : ((List.range' 62 2).all fun n => chk n) = true := by decide +kernel
theorem all1 (n : Nat) (h : n < 64) : chk n = true := by
  by_cases h0 : n < 2
  · exact from_chunk (f := fun n => chk n) k1_0 (by omega) (by omega)
  by_cases h1 : n < 4
  · exact from_chunk (f := fun n => chk n) k1_1 (by omega) (by omega)
  by_cases h2 : n < 6
  · exact from_chunk (f := fun n => chk n) k1_2 (by omega) (by omega)
  by_cases h3 : n < 8
  · exact from_chunk (f := fun n => chk n) k1_3 (by omega) (by omega)
  by_cases h4 : n < 10
  · exact from_chunk (f := fun n => chk n) k1_4 (by omega) (by omega)
  by_cases h5 : n < 12
  · exact from_chunk (f := fun n => chk n) k1_5 (by omega) (by omega)
  by_cases h6 : n < 14
  · exact from_chunk (f := fun n => chk n) k1_6 (by omega) (by omega)
  by_cases h7 : n < 16
  · exact from_chunk (f := fun n => chk n) k1_7 (by omega) (by omega)
  by_cases h8 : n < 18
  · exact from_chunk (f := fun n => chk n) k1_8 (by omega) (by omega)
  by_cases h9 : n < 20
  · exact from_chunk (f := fun n => chk n) k1_9 (by omega) (by omega)
  by_cases h10 : n < 22
  · exact from_chunk (f := fun n => chk n) k1_10 (by omega) (by omega)
  by_cases h11 : n < 24
  · exact from_chunk (f := fun n => chk n) k1_11 (by omega) (by omega)
  by_cases h12 : n < 26
  · exact from_chunk (f := fun n => chk n) k1_12 (by omega) (by omega)
  by_cases h13 : n < 28
  · exact from_chunk (f := fun n => chk n) k1_13 (by omega) (by omega)
  by_cases h14 : n < 30
  · exact from_chunk (f := fun n => chk n) k1_14 (by omega) (by omega)
  by_cases h15 : n < 32
  · exact from_chunk (f := fun n => chk n) k1_15 (by omega) (by omega)
  by_cases h16 : n < 34
  · exact from_chunk (f := fun n => chk n) k1_16 (by omega) (by omega)
  by_cases h17 : n < 36
  · exact from_chunk (f := fun n => chk n) k1_17 (by omega) (by omega)
  by_cases h18 : n < 38
  · exact from_chunk (f := fun n => chk n) k1_18 (by omega) (by omega)
  by_cases h19 : n < 40
  · exact from_chunk (f := fun n => chk n) k1_19 (by omega) (by omega)
  by_cases h20 : n < 42
  · exact from_chunk (f := fun n => chk n) k1_20 (by omega) (by omega)
  by_cases h21 : n < 44
  · exact from_chunk (f := fun n => chk n) k1_21 (by omega) (by omega)
  by_cases h22 : n < 46
  · exact from_chunk (f := fun n => chk n) k1_22 (by omega) (by omega)
  by_cases h23 : n < 48
  · exact from_chunk (f := fun n => chk n) k1_23 (by omega) (by omega)
  by_cases h24 : n < 50
  · exact from_chunk (f := fun n => chk n) k1_24 (by omega) (by omega)
  by_cases h25 : n < 52
  · exact from_chunk (f := fun n => chk n) k1_25 (by omega) (by omega)
  by_cases h26 : n < 54
  · exact from_chunk (f := fun n => chk n) k1_26 (by omega) (by omega)
  by_cases h27 : n < 56
  · exact from_chunk (f := fun n => chk n) k1_27 (by omega) (by omega)
  by_cases h28 : n < 58
  · exact from_chunk (f := fun n => chk n) k1_28 (by omega) (by omega)
  by_cases h29 : n < 60
  · exact from_chunk (f := fun n => chk n) k1_29 (by omega) (by omega)
  by_cases h30 : n < 62
  · exact from_chunk (f := fun n => chk n) k1_30 (by omega) (by omega)
  exact from_chunk (f := fun n => chk n) k1_31 (by omega) (by omega)
theorem fine_all {N : Int} (h0 : 0 ≤ N) (h1 : N < 64) : Fine1 N := by
  obtain ⟨n, rfl⟩ := Int.eq_ofNat_of_zero_le h0
  exact fine_of (by omega) (all1 n (by omega))
end Mine

end
section
set_option maxRecDepth 100000
open PySem PySem.W PyProof.Rows PySem.Calls PySem.Challenge
namespace Mine
/-- the i-th definition of a text, as the head writes it down -/
def posOf : Stmt → Pos
  | .FunctionDef _ _ _ _ _ _ _ _ _ p => p
  | _ => ⟨0, 0, 0, 0⟩
def recOf (p : Program) (i : Nat) : DefRec := ⟨nameOf (stOf p i), paramsOf (stOf p i), bodyOf (stOf p i), scopeOf (stOf p i), posOf (stOf p i)⟩
def bnames : List Str := ["range", "enumerate", "len", "sum", "min", "max", "abs", "int", "list", "dict", "sorted"]
def freeOk (p : Program) (loose : List Str) : Bool := bnames.all fun x => !startupNames.contains x && (!loose.contains x && (!((recsOf p).map (·.name)).contains x && (!((litsOf p).map (·.1)).contains x && !((clssOf p loose).map (·.name)).contains x)))

section
variable {prog p : Program} {w : World} {loose : List Str} {mean : ExcName → Option Value} {mg mb : Str → Option Value} {h : Heap} {tabs : List (Addr × Addr)} {P : Program} {idx : List Nat}
theorem bt_top (T : Top p loose mean mg mb h) (hf : freeOk p loose = true) : Bt mg mb := by
  have fr : ∀ x ∈ bnames, ∀ v, x ≠ "__name__" → bootBuiltins x = some v → gl mg mb x = some v := fun x hx v hn hb => by
    have := List.all_eq_true.mp hf x hx
    simp only [Bool.and_eq_true, Bool.not_eq_true', List.contains_eq_mem, decide_eq_false_iff_not] at this
    obtain ⟨h1, h2, h3, h4, h5⟩ := this
    unfold gl
    rw [T.free x h1 h2 h3 h4 h5, T.builtins x hn, hb]
    rfl
  constructor <;> exact fr _ (by decide +kernel) _ (by decide +kernel) (by with_unfolding_all rfl)
theorem ghost_sub : Sub (ghostOf h tabs) h := fun _ _ e => of_hideAll _ e
theorem cx_top (hT : TabsAt tabs h) (T : Top p loose mean mg mb h) (hf : freeOk p loose = true) : Cx (ghostOf h tabs) mg mb :=
  ⟨⟨ghost_ns hT T.g, ghost_ns hT T.b, let ⟨mc, a, r⟩ := T.nolimit; ⟨mc, ghost_ns hT a, r⟩⟩, bt_top T hf⟩
theorem bm_top (hT : TabsAt tabs h) (T : Top p loose mean mg mb h) : Bm (ghostOf h tabs) mg :=
  let ⟨bm, ob, a1, a2, a3, a4, r⟩ := T.bmain; ⟨bm, ob, a1, a2, ghost_get hT a3 (fun q => by rw [q] at a4; cases a4), a4, r⟩
theorem coderec_ghost (hT : TabsAt tabs h) {cd : Value} {q : Str} (x : h.CodeRec cd q) : (ghostOf h tabs).CodeRec cd q := by
  obtain ⟨c, o, vs, t, e1, e2, e3, e4⟩ := x
  exact ⟨c, o, vs, t, e1, ghost_get hT e2 (fun q => by rw [q] at e3; cases e3; cases e4), e3, e4⟩
theorem def_top (hT : TabsAt tabs h) (T : Top p loose mean mg mb h) (hR : recsOf p = idx.map (recOf P)) {i : Nat} (hi : i ∈ idx) : ∃ f, DefAt P (ghostOf h tabs) mg i f := by
  obtain ⟨a, o, pm, code, doc, h1, h2, h3, h4⟩ := T.fn (recOf P i) (hR ▸ List.mem_map_of_mem hi)
  exact ⟨.ref a, h1, a, o, pm, code, doc, rfl, ghost_get hT h2 (fun q => by rw [q] at h3; cases h3), h3, coderec_ghost hT h4⟩
theorem tab_top {K : Frag} {c q : Addr} (hT : TabsAt tabs h) (T : Top p loose mean mg mb h) (X : K.In h) (hR : recsOf p = idx.map (recOf P)) {i : Nat} (hi : i ∈ idx) (ht : tabIn K (nameOf (stOf P i)) = some (c, q)) (hc : CodeHd (ghostOf h tabs) c q) :
    ∃ f, FnTab (ghostOf h tabs) mg (nameOf (stOf P i)) (paramsOf (stOf P i)) (bodyOf (stOf P i)) (scopeOf (stOf P i)) f q := by
  obtain ⟨a, o, pm, code, doc, h1, h2, h3, h4⟩ := T.fn (recOf P i) (hR ▸ List.mem_map_of_mem hi)
  have hcode : code = .ref c := law_code X T.g ht h1 h2 h3
  subst hcode
  exact ⟨.ref a, h1, a, o, pm, c, doc, rfl, ghost_get hT h2 (fun q => by rw [q] at h3; cases h3), h3, coderec_ghost hT h4, hc⟩
theorem script_top {Q : Params} {l : Addr} {vs : List Value} {ns : List Int} (x : Well Q h (.ref l) (ofPy (.list (ns.map PyData.int)))) (hL : h.IsList l vs.toArray) (hI : IntsAre vs ns) : (tList tInt).is (fun _ => False) h (.ref l) ns := by
  cases x with
  | list hg ha =>
    rename_i us
    obtain ⟨o, e, _, n, hd⟩ := hL
    rw [hg] at e; cases e
    have hus : us = vs := by
      have := congrArg (fun d : Data => match d with | .seq a _ => a.toList | _ => []) hd
      simpa using this
    subst hus
    exact ⟨l, 0, us, rfl, fun d => d, hg, intsAre_to hI⟩
theorem rm_caller : Rm callerA 60 := ⟨rfl, by decide +kernel, by decide +kernel⟩
end

theorem number_ok (ns : List Int) : 0 ≤ number1 ns ∧ number1 ns < 64 := by
  unfold number1
  exact ⟨Int.fmod_nonneg_of_pos _ (by decide), Int.fmod_lt_of_pos _ (by decide)⟩

theorem join01 {prog p : Program} {w : World} {loose : List Str} {mean : ExcName → Option Value} {mg mb : Str → Option Value} {s₁ : Shared} {K : Frag} {c4 P4 c5 P5 fa l : Addr} {vs : List Value} {ns : List Int} {Q : Params}
    (T : Top p loose mean mg mb s₁.heap) (X : K.In s₁.heap) (hR : recsOf p = [1, 2, 4, 5, 7, 8, 9, 10].map (recOf P1)) (hf : freeOk p loose = true) (hT : TabsAt [(c4, P4), (c5, P5)] s₁.heap) (h45 : P4 ≠ P5)
    (t4 : tabIn K (nameOf (stOf P1 4)) = some (c4, P4)) (t5 : tabIn K (nameOf (stOf P1 5)) = some (c5, P5)) (hm : mg "law" = some (.ref fa)) (x : Well Q s₁.heap (.ref l) (ofPy (.list (ns.map PyData.int)))) (hL : s₁.heap.IsList l vs.toArray) (hI : IntsAre vs ns) (h63 : ¬ (63 : Int) < ns.length) :
    wpAny (model prog w) callerA (call (.ref fa) [.ref l]) (fun r s' => r = .bool true ∧ Keeps { s₁ with heap := ghostOf s₁.heap [(c4, P4), (c5, P5)] } s' ∧ GrownAll [(c4, P4), (c5, P5)] s'.heap) NE s₁ := by
  have C := cx_top hT T hf
  have B := bm_top hT T
  have gc := ghost_code hT
  obtain ⟨f1, F1⟩ := def_top hT T hR (i := 1) (by decide)
  obtain ⟨f2, F2⟩ := def_top hT T hR (i := 2) (by decide)
  obtain ⟨f7, F7⟩ := def_top hT T hR (i := 7) (by decide)
  obtain ⟨f8, F8⟩ := def_top hT T hR (i := 8) (by decide)
  obtain ⟨f9, F9⟩ := def_top hT T hR (i := 9) (by decide)
  obtain ⟨f10, F10⟩ := def_top hT T hR (i := 10) (by decide)
  obtain ⟨f4, F4⟩ := tab_top hT T X hR (i := 4) (by decide) t4 gc.1
  obtain ⟨f5, F5⟩ := tab_top hT T X hR (i := 5) (by decide) t5 gc.2.1
  have e10 : f10 = .ref fa := by
    have := F10.nm
    rw [show nameOf (stOf P1 10) = "law" by decide +kernel, hm] at this
    exact (Option.some.inj this).symm
  subst e10
  have n := number_ok ns
  refine wpAny_mono (walk_law C B F1 F2 F4 F5 F7 F8 F9 F10 (hideAll_none _ (.head _)) (hideAll_none _ (.tail _ (.head _))) h45 rm_caller ghost_sub (hT (c4, P4) (.head _)).2 (hT (c5, P5) (.tail _ (.head _))).2 (by omega) (script_top x hL hI) (fine_all n.1 n.2)) (fun r s' q => ?_) fun _ _ e => e
  exact ⟨q.1, q.2.1, q.2.2.1, q.2.2.2, trivial⟩
theorem good_end {c : ClaimW} {cl : Str → Option Addr} {mean : ExcName → Option Value} {args : List WData} {s₁ s' : Shared} {tabs : List (Addr × Addr)} {r : Value} (hT : TabsAt tabs s₁.heap) (h1 : ∀ cls, c.raises args cls = false) (h2 : c.post args (.bool true) args = true) (hg : s₁.gens = #[])
    (q : r = .bool true ∧ Keeps { s₁ with heap := ghostOf s₁.heap tabs } s' ∧ GrownAll tabs s'.heap) : GoodWG c cl mean args s₁ (.ok (.ret r)) s' := by
  obtain ⟨rfl, ⟨h', tk, rfl, hk⟩, gr⟩ := q
  have tab : ∀ b o, b ∈ tabs.map (·.2) → s₁.heap.get? b = some o → isCodeTable s₁.heap b ∧ o = tabObj #[] ∧ ∃ ps, h'.get? b = some (tabObj ps) := fun b o hb e => by
    obtain ⟨t, ht, rfl⟩ := List.mem_map.mp hb
    have here := (hT t ht).2
    rw [e] at here
    exact ⟨((hT t ht).1.tab (hT t ht).2).isCodeTable, Option.some.inj here, gr.get t ht⟩
  refine ⟨.inl ⟨_, .bool true, [], rfl, h1, .bool true, h2, fun _ => ⟨List.nodup_nil, fun a m => nomatch m⟩⟩, ⟨fun b o e => ?_, fun b o e => ?_⟩, rfl, .of_eq hg⟩
  · by_cases hb : b ∈ tabs.map (·.2)
    · obtain ⟨ht, rfl, ps, hp⟩ := tab b o hb e
      exact .inr (.inl ⟨ht, rfl, #[], ps, rfl, by rw [Array.empty_append]; exact hp⟩)
    · exact .inl (hk b o (ghost_ne e hb))
  · by_cases hb : b ∈ tabs.map (·.2)
    · obtain ⟨_, _, ps, hp⟩ := tab b o hb e
      exact ⟨_, hp⟩
    · exact ⟨o, hk b o (ghost_ne e hb)⟩
end Mine

end
set_option maxRecDepth 100000 in
set_option maxHeartbeats 8000000 in
theorem PySem.Challenge.cw_gm0002_01_holds : PySem.Challenge.rw_gm0002_01.Holds := by
  w_on
  o_law
  k_head
  (case hw => w_witness2)
  k_fill
  intro w s₀ s₁ mg mb G Y fa o pm cd doc dV kV ho hd hcd hD hmg hg args vals as hpre hlay hrd hwl hlo
  have KX := km_in_of Y
  km_tabs Y
  refine Ground.open G ?_
  intro T B D TE TW
  km_lay T hmg ho hd cd
  wrow_args hpre hlay hrd hwl hlo
  have hT7 : TabsAt [(34, 30), (41, 37)] s₁.heap := fun q m => hT9 q (by
    rcases List.mem_cons.mp m with rfl | m
    · exact .tail _ (.head _)
    · rcases List.mem_cons.mp m with rfl | m
      · exact .head _
      · cases m)
  refine wpAny_mono (Mine.join01 T KX (by kernel_rfl) (by kernel_rfl) hT7 (by decide) (by kernel_rfl) (by kernel_rfl) hmg (by assumption) (by assumption) (by assumption) (by assumption)) (fun r s' q => ?_) (fun _ _ e => e.elim)
  exact Mine.good_end hT7 (fun _ => rfl) (by kernel_rfl) hg q
